import PyProof.Rows.All
import Wide.All
import OpenK.AllK
import Wide.FinOn
import KE.KFromBytes
import KE.KParC
import KE.KDictOf
import PyProof.StrWalks
import PyProof.IsiStr
import PyProof.Rows.CatchStr
import PyProof.NsDelKeeps
import PyProof.ExcStrAll.ValueError
import PyProof.ExcAttrAll.ValueError
import KE.KEqDat
import PyProof.Rows.EqDataRows
import Lean
import PySem.Challenge.RW_in0035_02
set_option maxRecDepth 100000
set_option Elab.async false
set_option genInjectivity false
set_option genSizeOf false
set_option tactic.hygienic false
open PySem PySem.Calls PyProof.Rows PySem.W
open PySem.Str (ofString)
namespace Mine
noncomputable abbrev V := PySem.W.Dat
noncomputable abbrev Led := List (Addr × Obj)
abbrev VR (fz : Led) (d : V) (v : Value) : Prop := DatIn fz v d
noncomputable abbrev Loc := List (Str × V)
noncomputable def strOk (s : Str) : Bool := Nat.ble s.length 1000000
theorem strOk_le {s : Str} (h : strOk s = true) : s.length ≤ 1000000 := Nat.le_of_ble_eq_true h
theorem nn {α : Type} {x : α} {P : Prop} (h : (none : Option α) = some x) : P := by cases h
theorem sj {α : Type} {x y : α} (h : some x = some y) : x = y := by cases h; rfl
theorem ct {α : Type} {c : Bool} {a b : α} (h : c = true) : cond c a b = a := by subst h; rfl
theorem cf {α : Type} {c : Bool} {a b : α} (h : c = false) : cond c a b = b := by subst h; rfl
noncomputable def opt {α β : Type} (x : Option α) (k : α → β) (f : β) : β := match x with
  | some a => k a
  | none => f
noncomputable def gate {β : Type} (c : Bool) (x f : β) : β := match c with
  | true => x
  | false => f
noncomputable def brO {γ : Type} (c : Bool) (a b : Option γ) : Option γ := cond c a b
noncomputable def strOf : V → Option Str
  | .str s => some s
  | _ => none
noncomputable def intOf : V → Option Int
  | .int i => some i
  | _ => none
theorem strOf_is {d : V} {x : Str} (h : strOf d = some x) : d = .str x := by cases d <;> first | exact nn h | exact congrArg _ (sj h)
theorem intOf_is {d : V} {x : Int} (h : intOf d = some x) : d = .int x := by cases d <;> first | exact nn h | exact congrArg _ (sj h)
theorem vr_str {fz : Led} {x : Str} {v : Value} (h : VR fz (.str x) v) : ∃ t, v = .str x t := by cases h; exact ⟨_, rfl⟩
theorem vr_int {fz : Led} {x : Int} {v : Value} (h : VR fz (.int x) v) : ∃ t, v = .int x t := by cases h; exact ⟨_, rfl⟩
section
variable {γ : Type} {r : γ}
theorem opt_of {α : Type} {x : Option α} {k : α → Option γ} (h : opt x k none = some r) : ∃ a, x = some a ∧ k a = some r := by
  cases x with
  | none => exact nn h
  | some a => exact ⟨a, rfl, h⟩
theorem opt_or {α : Type} {x : Option α} {k : α → Option γ} {f : Option γ} (h : opt x k f = some r) : (∃ a, x = some a ∧ k a = some r) ∨ (x = none ∧ f = some r) := by
  cases x with
  | none => exact .inr ⟨rfl, h⟩
  | some a => exact .inl ⟨a, rfl, h⟩
theorem gate_of {c : Bool} {x : Option γ} (h : gate c x none = some r) : c = true ∧ x = some r := by
  cases c with
  | true => exact ⟨rfl, h⟩
  | false => exact nn h
theorem gate_off {c : Bool} {x : Option γ} (h : gate c none x = some r) : c = false ∧ x = some r := by
  cases c with
  | true => exact nn h
  | false => exact ⟨rfl, h⟩
theorem brO_of {c : Bool} {x : Option γ} (h : brO c x none = some r) : c = true ∧ x = some r := by
  cases c with
  | true => exact ⟨rfl, h⟩
  | false => exact nn h
theorem brO_off {c : Bool} {x : Option γ} (h : brO c none x = some r) : c = false ∧ x = some r := by
  cases c with
  | true => exact nn h
  | false => exact ⟨rfl, h⟩
end
noncomputable def truthV : V → Option Bool
  | .none => some false
  | .bool b => some b
  | .int i => some (i != 0)
  | .str s => if strOk s then some ((s.length : Int) != 0) else Option.none
  | _ => Option.none
noncomputable def constV : Const → Option V
  | .none => some .none
  | .bool b => some (.bool b)
  | .int i => some (.int i)
  | .str s => some (.str s)
  | _ => Option.none
noncomputable def strLt (x y : Str) : Bool := decide (x.cps.toList < y.cps.toList)
noncomputable def strEq (x y : Str) : Bool := x.cps.toList == y.cps.toList
noncomputable def intsV2 (g : Int → Int → Bool) (a b : V) : Option V := opt (intOf a) (fun x => opt (intOf b) (fun y => some (.bool (g x y))) none) none
noncomputable def strsV2 (g : Str → Str → Bool) (a b : V) : Option V := opt (strOf a) (fun x => opt (strOf b) (fun y => some (.bool (g x y))) none) none
theorem ints_of {g : Int → Int → Bool} {fz : Led} {a b r : V} {va vb : Value} (xa : VR fz a va) (xb : VR fz b vb) (h : intsV2 g a b = some r) : ∃ x t y u, va = .int x t ∧ vb = .int y u ∧ r = .bool (g x y) := by
  obtain ⟨x, h1, h⟩ := opt_of h
  obtain ⟨y, h2, h⟩ := opt_of h
  obtain rfl := intOf_is h1
  obtain rfl := intOf_is h2
  obtain ⟨t, rfl⟩ := vr_int xa
  obtain ⟨u, rfl⟩ := vr_int xb
  exact ⟨x, t, y, u, rfl, rfl, (sj h).symm⟩
theorem strs_of {g : Str → Str → Bool} {fz : Led} {a b r : V} {va vb : Value} (xa : VR fz a va) (xb : VR fz b vb) (h : strsV2 g a b = some r) : ∃ x t y u, va = .str x t ∧ vb = .str y u ∧ r = .bool (g x y) := by
  obtain ⟨x, h1, h⟩ := opt_of h
  obtain ⟨y, h2, h⟩ := opt_of h
  obtain rfl := strOf_is h1
  obtain rfl := strOf_is h2
  obtain ⟨t, rfl⟩ := vr_str xa
  obtain ⟨u, rfl⟩ := vr_str xb
  exact ⟨x, t, y, u, rfl, rfl, (sj h).symm⟩
noncomputable def isNoneV : V → Bool
  | .none => true
  | _ => false
noncomputable def notNoneV : V → Bool
  | .none => false
  | _ => true
theorem isNoneV_is {d : V} (h : isNoneV d = true) : d = .none := by cases d <;> first | rfl | exact absurd h Bool.false_ne_true
noncomputable def eqV (n : Bool) (a b : V) : Option V := match a with
  | .none => gate (isNoneV b) (some (.bool (n != true))) (opt (strOf b) (fun _ => some (.bool (n != false))) none)
  | .int _ => intsV2 (fun x y => cond n (x != y) (x == y)) a b
  | .str _ => gate (isNoneV b) (some (.bool (n != false))) (strsV2 (fun x y => cond n (!strEq x y) (strEq x y)) a b)
  | _ => none
noncomputable def cmpV (op : CmpOp) (a b : V) : Option V := match op with
  | .Eq => eqV false a b
  | .NotEq => eqV true a b
  | .In => strsV2 (fun y x => Txt.contains x y) a b
  | .NotIn => strsV2 (fun y x => !Txt.contains x y) a b
  | .Lt => intsV2 (fun x y => decide (x < y)) a b
  | .LtE => opt (strOf a) (fun _ => strsV2 (fun x y => !strLt y x) a b) (intsV2 (fun x y => decide (x ≤ y)) a b)
  | .Gt => intsV2 (fun x y => decide (x > y)) a b
  | .GtE => intsV2 (fun x y => decide (x ≥ y)) a b
  | .Is => gate (isNoneV b) (some (.bool (isNoneV a))) none
  | .IsNot => gate (isNoneV b) (some (.bool (notNoneV a))) none
section
variable {prog : Program} {w : World} {A : Around} {E : Value → Shared → Prop} {s : Shared} {fz : Led}
theorem truth_sound {d : V} {v : Value} {b : Bool} {Q : Bool → Shared → Prop} (x : VR fz d v) (h : truthV d = some b) (hq : ∀ tk, Q b { s with toks := tk }) : wpAny (model prog w) A (truthy v) Q E s := by
  cases x with
  | none => obtain rfl := sj h; exact truthy_none (hq s.toks)
  | bool b' => obtain rfl := sj h; exact wpAny_truthy_bool (hq s.toks)
  | int i t => obtain rfl := sj h; exact truthy_int (hq s.toks)
  | str x t =>
    have h' : (if strOk x = true then some ((x.length : Int) != 0) else Option.none) = some b := h
    by_cases ho : strOk x = true
    · rw [if_pos ho] at h'
      obtain rfl := sj h'
      exact SBL.truthy (by have := strOk_le ho; omega) (hq _)
    · rw [if_neg ho] at h'; exact nn h'
  | bytes => exact nn h
  | tuple => exact nn h
  | list => exact nn h
theorem eq_sound {n : Bool} {a b r : V} {va vb : Value} {Q : Value → Shared → Prop} (xa : VR fz a va) (xb : VR fz b vb) (h : eqV n a b = some r)
    (hq : ∀ v, VR fz r v → Q v s) : wpAny (model prog w) A (compareOp (cond n .NotEq .Eq) va vb) Q E s := by
  cases a with
  | none =>
    cases xa
    cases hb : isNoneV b with
    | true =>
      obtain rfl := isNoneV_is hb
      cases xb
      obtain rfl := sj h
      cases n
      · exact EqNone.eq_none_none (hq _ (.bool _))
      · exact EqNone.ne_none_none (hq _ (.bool _))
    | false =>
      have h : gate (isNoneV b) _ _ = some r := h
      rw [hb] at h
      obtain ⟨y, h2, h⟩ := opt_of h
      obtain rfl := strOf_is h2
      obtain ⟨t, rfl⟩ := vr_str xb
      obtain rfl := sj h
      cases n
      · exact EqNone.eq_none_str (hq _ (.bool _))
      · exact EqNone.ne_none_str (hq _ (.bool _))
  | int i =>
    obtain ⟨x, t, y, u, rfl, rfl, rfl⟩ := ints_of xa xb h
    cases n
    · exact PyProof.Rows.eq_int (hq _ (.bool _))
    · exact PyProof.Rows.ne_int (hq _ (.bool _))
  | str i =>
    cases hb : isNoneV b with
    | true =>
      have h : gate (isNoneV b) _ _ = some r := h
      rw [hb] at h
      obtain rfl := isNoneV_is hb
      obtain ⟨t, rfl⟩ := vr_str xa
      cases xb
      obtain rfl := sj h
      cases n
      · exact EqNone.eq_str_none (hq _ (.bool _))
      · exact EqNone.ne_str_none (hq _ (.bool _))
    | false =>
      have h : gate (isNoneV b) _ _ = some r := h
      rw [hb] at h
      obtain ⟨x, t, y, u, rfl, rfl, rfl⟩ := strs_of xa xb h
      cases n
      · exact P.eq_str (hq _ (.bool _))
      · exact P.ne_str (hq _ (.bool _))
  | _ => exact nn h
theorem cmp_sound {op : CmpOp} {a b r : V} {va vb : Value} {Q : Value → Shared → Prop} (xa : VR fz a va) (xb : VR fz b vb) (h : cmpV op a b = some r)
    (hq : ∀ v tk, VR fz r v → Q v { s with toks := tk }) : wpAny (model prog w) A (compareOp op va vb) Q E s := by
  have hq' : ∀ v, VR fz r v → Q v s := fun v => hq v s.toks
  clear hq
  cases op with
  | Eq => exact eq_sound (n := false) xa xb h hq'
  | NotEq => exact eq_sound (n := true) xa xb h hq'
  | In => obtain ⟨x, t, y, u, rfl, rfl, rfl⟩ := strs_of xa xb h; exact SB.contains (hq' _ (.bool _))
  | NotIn => obtain ⟨x, t, y, u, rfl, rfl, rfl⟩ := strs_of xa xb h; exact SB.notContains (hq' _ (.bool _))
  | Lt => obtain ⟨x, t, y, u, rfl, rfl, rfl⟩ := ints_of xa xb h; exact PyProof.Rows.lt_int (hq' _ (.bool _))
  | LtE =>
    rcases opt_or h with ⟨_, _, h⟩ | ⟨_, h⟩
    · obtain ⟨x, t, y, u, rfl, rfl, rfl⟩ := strs_of xa xb h; exact P.le_str (hq' _ (.bool _))
    · obtain ⟨x, t, y, u, rfl, rfl, rfl⟩ := ints_of xa xb h; exact P.le_int (hq' _ (.bool _))
  | Gt => obtain ⟨x, t, y, u, rfl, rfl, rfl⟩ := ints_of xa xb h; exact P.gt_int (hq' _ (.bool _))
  | GtE => obtain ⟨x, t, y, u, rfl, rfl, rfl⟩ := ints_of xa xb h; exact P.ge_int (hq' _ (.bool _))
  | Is =>
    obtain ⟨hb, h⟩ := gate_of h
    obtain rfl := isNoneV_is hb
    cases xb
    obtain rfl := sj h
    refine is_none ?_
    cases xa <;> exact hq' _ (.bool _)
  | IsNot =>
    obtain ⟨hb, h⟩ := gate_of h
    obtain rfl := isNoneV_is hb
    cases xb
    obtain rfl := sj h
    refine isNot_none ?_
    cases xa <;> exact hq' _ (.bool _)
end
section
variable {β : Type} (br : Bool → β → β → β) (f : β)
noncomputable def intK (d : V) (k : Int → β) : β := opt (intOf d) k f
noncomputable def strK (d : V) (k : Str → β) : β := opt (strOf d) k f
noncomputable def addK (a b : V) (k : V → β) : β := opt (intOf a) (fun x => intK f b fun y => k (.int (x + y))) (strK f a fun x => strK f b fun y => br (strOk x && strOk y) (k (.str (x ++ y))) f)
noncomputable def binK (op : Operator) (a b : V) (k : V → β) : β := match op with
  | .Add => addK br f a b k
  | .Sub => intK f a fun x => intK f b fun y => k (.int (x - y))
  | .Mod => intK f a fun x => intK f b fun y => br (y == 0) f (k (.int (x.fmod y)))
  | .FloorDiv => intK f a fun x => intK f b fun y => br (decide (0 < y) && decide (y ≤ 1000)) (k (.int (x.fdiv y))) f
  | _ => f
noncomputable def inpK (op : Operator) (a b : V) (k : V → β) : β := match op with
  | .Add => addK br f a b k
  | _ => f
noncomputable def truthK (v : V) (k : Bool → β) : β := match v with
  | .none => k false
  | .bool b => k b
  | .int i => k (i != 0)
  | .str s => br (strOk s) (k ((s.length : Int) != 0)) f
  | _ => f
noncomputable def itemK (x i : V) (k : V → β) : β := strK f x fun s => intK f i fun j => br (strOk s && decide (-(s.length : Int) ≤ j) && decide (j < s.length)) (k (.str (Txt.item s j))) f
noncomputable def endK (l : Option V) (k : Option Int → β) : β := opt l (fun d => intK f d fun i => k (some i)) (k none)
noncomputable def sliceK (x : V) (lo hi : Option V) (k : V → β) : β := strK f x fun s => endK f lo fun l => endK f hi fun h => gate (l.isSome || h.isSome) (br (strOk s) (k (.str (Txt.slice s l h))) f) f
end
noncomputable def binV (op : Operator) (a b : V) : Option V := binK brO none op a b some
section
variable {γ : Type} {r : γ}
theorem intK_of {d : V} {k : Int → Option γ} (h : intK none d k = some r) : ∃ i, d = .int i ∧ k i = some r := by
  obtain ⟨i, h1, h⟩ := opt_of h
  exact ⟨i, intOf_is h1, h⟩
theorem strK_of {d : V} {k : Str → Option γ} (h : strK none d k = some r) : ∃ i, d = .str i ∧ k i = some r := by
  obtain ⟨i, h1, h⟩ := opt_of h
  exact ⟨i, strOf_is h1, h⟩
theorem truthK_of {v : V} {k : Bool → Option γ} (h : truthK brO none v k = some r) : ∃ t, truthV v = some t ∧ k t = some r := by
  cases v with
  | none => exact ⟨_, rfl, h⟩
  | bool b => exact ⟨_, rfl, h⟩
  | int i => exact ⟨_, rfl, h⟩
  | str s =>
    obtain ⟨h1, h2⟩ := brO_of h
    exact ⟨_, if_pos h1, h2⟩
  | _ => exact nn h
theorem endK_of {l : Option V} {k : Option Int → Option γ} (h : endK none l k = some r) : (l = none ∧ k none = some r) ∨ ∃ i, l = some (.int i) ∧ k (some i) = some r := by
  rcases opt_or h with ⟨d, rfl, h⟩ | ⟨rfl, h⟩
  · obtain ⟨i, rfl, h⟩ := intK_of h
    exact .inr ⟨i, rfl, h⟩
  · exact .inl ⟨rfl, h⟩
end
def BinOk (prog : Program) (w : World) (ex : Operator → Value → Value → Sem Value) (op : Operator) (a b c : V) : Prop := ∀ {A : Around} {E : Value → Shared → Prop} {s : Shared} {fz : Led} {va vb : Value} {Q : Value → Shared → Prop}, VR fz a va → VR fz b vb →
    (∀ v tk, VR fz c v → Q v { s with toks := tk }) → wpAny (model prog w) A (ex op va vb) Q E s
section
variable {prog : Program} {w : World} {γ : Type} {r : γ}
theorem addK_of {ex : Operator → Value → Value → Sem Value} {op : Operator} {a b : V} {k : V → Option γ} (h1 : ∀ x y, BinOk prog w ex op (.int x) (.int y) (.int (x + y))) (h2 : ∀ x y, (strOk x && strOk y) = true → BinOk prog w ex op (.str x) (.str y) (.str (x ++ y)))
    (h : addK brO none a b k = some r) : ∃ c, BinOk prog w ex op a b c ∧ k c = some r := by
  rcases opt_or h with ⟨x, e, h⟩ | ⟨_, h⟩
  · obtain rfl := intOf_is e
    obtain ⟨y, rfl, h⟩ := intK_of (d := b) h
    exact ⟨_, h1 x y, h⟩
  · obtain ⟨x, rfl, h⟩ := strK_of (d := a) h
    obtain ⟨y, rfl, h⟩ := strK_of (d := b) h
    obtain ⟨e, h⟩ := brO_of h
    exact ⟨_, h2 x y e, h⟩
theorem nat1000 {y : Int} (h0 : 0 < y) (h : y ≤ 1000) : y.natAbs < 1073741824 := by omega
theorem add_fits {x y : Str} (h : (strOk x && strOk y) = true) : x.length + y.length ≤ sizeLine := by
  rw [Bool.and_eq_true] at h
  have := strOk_le h.1; have := strOk_le h.2; rw [sizeLine_eq]; omega
theorem binK_of {op : Operator} {a b : V} {k : V → Option γ} (h : binK brO none op a b k = some r) : ∃ c, BinOk prog w binaryOp op a b c ∧ k c = some r := by
  cases op with
  | Add =>
    refine addK_of (fun x y => ?_) (fun x y e => ?_) h
    · intro A E s fz va vb Q xa xb hq
      obtain ⟨_, rfl⟩ := vr_int xa; obtain ⟨_, rfl⟩ := vr_int xb; exact PyProof.Rows.add_int (hq _ _ (.int _ _))
    · intro A E s fz va vb Q xa xb hq
      obtain ⟨_, rfl⟩ := vr_str xa; obtain ⟨_, rfl⟩ := vr_str xb; exact SB.add (fun t' k => hq _ _ (.str _ _)) (add_fits e)
  | Sub =>
    obtain ⟨x, rfl, h⟩ := intK_of (d := a) h
    obtain ⟨y, rfl, h⟩ := intK_of (d := b) h
    refine ⟨_, ?_, h⟩
    intro A E s fz va vb Q xa xb hq
    obtain ⟨_, rfl⟩ := vr_int xa; obtain ⟨_, rfl⟩ := vr_int xb; exact PyProof.Rows.sub_int (hq _ _ (.int _ _))
  | Mod =>
    obtain ⟨x, rfl, h⟩ := intK_of (d := a) h
    obtain ⟨y, rfl, h⟩ := intK_of (d := b) h
    obtain ⟨e, h⟩ := brO_off h
    refine ⟨_, ?_, h⟩
    intro A E s fz va vb Q xa xb hq
    obtain ⟨_, rfl⟩ := vr_int xa; obtain ⟨_, rfl⟩ := vr_int xb
    exact PyProof.Rows.mod_int (ne_of_beq_false e) (hq _ _ (.int _ _))
  | FloorDiv =>
    obtain ⟨x, rfl, h⟩ := intK_of (d := a) h
    obtain ⟨y, rfl, h⟩ := intK_of (d := b) h
    obtain ⟨e, h⟩ := brO_of h
    refine ⟨_, ?_, h⟩
    intro A E s fz va vb Q xa xb hq
    obtain ⟨_, rfl⟩ := vr_int xa; obtain ⟨_, rfl⟩ := vr_int xb
    simp only [Bool.and_eq_true, decide_eq_true_eq] at e
    exact PyProof.Rows.floordiv_int (Int.ne_of_gt e.1) (hq _ _ (.int _ _)) (.inl (PyProof.noPylong_small (nat1000 e.1 e.2)))
  | _ => exact nn h
theorem inpK_of {op : Operator} {a b : V} {k : V → Option γ} (h : inpK brO none op a b k = some r) : ∃ c, BinOk prog w inplaceOp op a b c ∧ k c = some r := by
  cases op with
  | Add =>
    refine addK_of (fun x y => ?_) (fun x y e => ?_) h
    · intro A E s fz va vb Q xa xb hq
      obtain ⟨_, rfl⟩ := vr_int xa; obtain ⟨_, rfl⟩ := vr_int xb; exact P.iadd_int (hq _ _ (.int _ _))
    · intro A E s fz va vb Q xa xb hq
      obtain ⟨_, rfl⟩ := vr_str xa; obtain ⟨_, rfl⟩ := vr_str xb; exact SB.iadd (fun t' k => hq _ _ (.str _ _)) (add_fits e)
  | _ => exact nn h
end
structure Orc where
  names : List Str
  self : Str
  attr : Str → Option V
  callF : Str → List V → Option (Bool × V)
noncomputable def notStar (e : Expr) : Bool := e.ctorIdx != 22
noncomputable def notComp (e : Expr) : Bool := e.ctorIdx != 8 && e.ctorIdx != 9 && e.ctorIdx != 10
noncomputable def plainTest (e : Expr) : Bool := match e with
  | .UnaryOp .USub _ _ => true
  | e => [2, 16, 19, 20, 21, 23].contains e.ctorIdx
noncomputable def methBase (e : Expr) : Bool := e.ctorIdx == 21 || e.ctorIdx == 23
noncomputable def notSlice (e : Expr) : Bool := e.ctorIdx != 26
theorem cX {a b : Bool} {P : Prop} (h : a = true) (e : a = b) (hb : b = false) : P := by subst e; subst hb; cases h
noncomputable def methId (name : Str) : Nat := if name == "find" then 1 else if name == "count" then 2 else 0
theorem methId_1 {name : Str} (h : methId name = 1) : name = "find" := by
  unfold methId at h
  split at h
  · rename_i q; exact eq_of_beq q
  · split at h <;> cases h
theorem methId_2 {name : Str} (h : methId name = 2) : name = "count" := by
  unfold methId at h
  split at h
  · cases h
  · split at h
    · rename_i q; exact eq_of_beq q
    · cases h
noncomputable def one {α : Type} : List α → Option α
  | [] => none
  | a :: r => match r with
    | [] => some a
    | _ :: _ => none
noncomputable def two {α : Type} : List α → Option (α × α)
  | [] => none
  | a :: r => opt (one r) (fun b => some (a, b)) none
theorem one_is {α : Type} {l : List α} {a : α} (h : one l = some a) : l = [a] := by
  cases l with
  | nil => exact nn h
  | cons b r => cases r with
    | nil => obtain rfl := sj h; rfl
    | cons => exact nn h
theorem two_is {α : Type} {l : List α} {a : α × α} (h : two l = some a) : l = [a.1, a.2] := by
  cases l with
  | nil => exact nn h
  | cons b r =>
    obtain ⟨c, h1, h⟩ := opt_of h
    rw [one_is h1, ← sj h]
noncomputable def three {α : Type} : List α → Option (α × α × α)
  | [] => none
  | a :: r => opt (two r) (fun q => some (a, q)) none
theorem three_is {α : Type} {l : List α} {a : α × α × α} (h : three l = some a) : l = [a.1, a.2.1, a.2.2] := by
  cases l with
  | nil => exact nn h
  | cons b r =>
    obtain ⟨c, h1, h⟩ := opt_of h
    rw [two_is h1, ← sj h]
theorem len2 {α : Type} {l : List α} (h : l.length = 2) : ∃ a b, l = [a, b] := by
  cases l with
  | nil => cases h
  | cons a l =>
    obtain ⟨b, rfl⟩ := List.length_eq_one_iff.mp (Nat.succ.inj h)
    exact ⟨a, b, rfl⟩
theorem len3 {α : Type} {l : List α} (h : l.length = 3) : ∃ a b c, l = [a, b, c] := by
  cases l with
  | nil => cases h
  | cons a l =>
    obtain ⟨b, c, rfl⟩ := len2 (Nat.succ.inj h)
    exact ⟨a, b, c, rfl⟩
noncomputable def boolOf : V → Option Bool
  | .bool b => some b
  | _ => none
theorem boolOf_is {d : V} {x : Bool} (h : boolOf d = some x) : d = .bool x := by cases d <;> first | exact nn h | exact congrArg _ (sj h)
noncomputable def aS (l : List V) : Option Str := opt (one l) strOf none
theorem aS_is {l : List V} {x : Str} (h : aS l = some x) : l = [.str x] := by
  obtain ⟨d, h1, h2⟩ := opt_of h
  rw [one_is h1, strOf_is h2]
noncomputable def aI (l : List V) : Option Int := opt (one l) intOf none
theorem aI_is {l : List V} {x : Int} (h : aI l = some x) : l = [.int x] := by
  obtain ⟨d, h1, h2⟩ := opt_of h
  rw [one_is h1, intOf_is h2]
noncomputable def aIS (l : List V) : Option (Int × Str) := opt (two l) (fun q => opt (intOf q.1) (fun a => opt (strOf q.2) (fun b => some (a, b)) none) none) none
theorem aIS_is {l : List V} {x : Int × Str} (h : aIS l = some x) : l = [.int x.1, .str x.2] := by
  obtain ⟨q, h1, h⟩ := opt_of h
  obtain ⟨a, h2, h⟩ := opt_of h
  obtain ⟨b, h3, h⟩ := opt_of h
  rw [two_is h1, intOf_is h2, strOf_is h3, ← sj h]
noncomputable def aSBS (l : List V) : Option (Str × Bool × Str) := opt (three l) (fun q => opt (strOf q.1) (fun a => opt (boolOf q.2.1) (fun b => opt (strOf q.2.2) (fun c => some (a, b, c)) none) none) none) none
theorem aSBS_is {l : List V} {x : Str × Bool × Str} (h : aSBS l = some x) : l = [.str x.1, .bool x.2.1, .str x.2.2] := by
  obtain ⟨q, h1, h⟩ := opt_of h
  obtain ⟨a, h2, h⟩ := opt_of h
  obtain ⟨b, h3, h⟩ := opt_of h
  obtain ⟨c, h4, h⟩ := opt_of h
  rw [three_is h1, strOf_is h2, boolOf_is h3, strOf_is h4, ← sj h]
noncomputable def aSIS (l : List V) : Option (Str × Int × Str) := opt (three l) (fun q => opt (strOf q.1) (fun a => opt (intOf q.2.1) (fun b => opt (strOf q.2.2) (fun c => some (a, b, c)) none) none) none) none
theorem aSIS_is {l : List V} {x : Str × Int × Str} (h : aSIS l = some x) : l = [.str x.1, .int x.2.1, .str x.2.2] := by
  obtain ⟨q, h1, h⟩ := opt_of h
  obtain ⟨a, h2, h⟩ := opt_of h
  obtain ⟨b, h3, h⟩ := opt_of h
  obtain ⟨c, h4, h⟩ := opt_of h
  rw [three_is h1, strOf_is h2, intOf_is h3, strOf_is h4, ← sj h]
noncomputable def methV (k : Nat) (x : V) (args : List V) : Option V := opt (strOf x) (fun s => match k with
  | 0 => none
  | 1 => opt (one args) (fun d => opt (strOf d) (fun y => some (.int (Txt.find s y))) none) (opt (two args) (fun q => opt (strOf q.1) (fun y => opt (intOf q.2) (fun i => some (.int (Txt.find3 s y i))) none) none) none)
  | _ + 2 => opt (one args) (fun d => opt (strOf d) (fun y => some (.int (Txt.count s y))) none) none) none
noncomputable def allStr : List V → Option (List Str)
  | [] => some []
  | d :: r => opt (strOf d) (fun y => opt (allStr r) (fun ys => some (y :: ys)) none) none
noncomputable def inTup (a : V) (vs : List V) : Option V := opt (strOf a) (fun x => opt (allStr vs) (fun ys => some (.bool (ys.any (· == x)))) none) none
def Apart (R S : Led) : Prop := ∀ p ∈ R, ∀ q ∈ S, p.1 ≠ q.1
structure Cx (O : Type) where
  s₀ : Shared
  h₀ : Heap
  L : Addr
  rest : Led
  refs : List (Str × Value)
  Rep : O → Led → Led → Prop
  mono : ∀ o fz fz' R, (∀ p ∈ fz, p ∈ fz') → Rep o fz R → Rep o fz' R
def LocsAre (m : Str → Option Value) (ρ : Loc) (fz : Led) : Prop := ∀ x v, ρ.lookup x = some v → ∃ v', m x = some v' ∧ VR fz v v'
def RefsAre (m : Str → Option Value) (l : List (Str × Value)) : Prop := ∀ p ∈ l, m p.1 = some p.2
inductive At {O : Type} (C : Cx O) (o : O) (ρ : Loc) (fz : Led) (s : Shared) : Prop
  | mk (h : Heap) (tk : Nat) (m : Str → Option Value) (R : Led) (hs : s = { C.s₀ with heap := h, toks := tk }) (F : Fr C.h₀ C.L h m) (N : News C.h₀ C.L h (R ++ (fz ++ C.rest))) (rp : C.Rep o fz R) (ap : Apart R (fz ++ C.rest)) (lc : LocsAre m ρ fz) (rf : RefsAre m C.refs)
theorem LocsAre.mono {m : Str → Option Value} {ρ : Loc} {fz fz' : Led} (lc : LocsAre m ρ fz) (h : ∀ p ∈ fz, p ∈ fz') : LocsAre m ρ fz' := fun x v hx =>
  let ⟨v', e1, e2⟩ := lc x v hx
  ⟨v', e1, DatIn.mono h e2⟩
theorem led_give {h₀ h : Heap} {L : Addr} {x : Addr × Obj} {R fz rest : Led} (N : News h₀ L h ((x :: R) ++ (fz ++ rest))) : News h₀ L h (R ++ ((x :: fz) ++ rest)) := fun q hq => N q (by
  rcases List.mem_append.mp hq with hq | hq
  · exact .tail _ (List.mem_append_left _ hq)
  · rcases List.mem_cons.mp hq with rfl | hq
    · exact .head _
    · exact .tail _ (List.mem_append_right _ hq))
theorem At.re {O O' : Type} {C : Cx O} {C' : Cx O'} {o : O} {o' : O'} {ρ : Loc} {fz : Led} {s : Shared} (h : At C o ρ fz s) (e1 : C'.s₀ = C.s₀ := by rfl) (e2 : C'.h₀ = C.h₀ := by rfl) (e3 : C'.L = C.L := by rfl) (e4 : C'.rest = C.rest := by rfl) (e5 : C'.refs = C.refs := by rfl)
    (e6 : ∀ R, C.Rep o fz R → C'.Rep o' fz R := by exact fun _ h => h) : At C' o' ρ fz s := by
  obtain ⟨h, tk', m, R, rfl, F, N, rp, ap, lc, rf⟩ := h
  exact ⟨h, tk', m, R, by rw [e1], by rw [e2, e3]; exact F, by rw [e2, e3, e4]; exact N, e6 R rp, by rw [e4]; exact ap, lc, by rw [e5]; exact rf⟩
theorem keys_split {pre post : Led} {a : Addr} {ob : Obj} (h : ((pre ++ (a, ob) :: post).map (·.1)).Nodup) : (∀ q ∈ pre, q.1 ≠ a) ∧ ∀ q ∈ post, q.1 ≠ a := by
  rw [List.map_append, List.map_cons, List.nodup_append] at h
  exact ⟨fun q hq => h.2.2 _ (List.mem_map_of_mem (f := (·.1)) hq) _ (.head _), fun q hq e => (List.nodup_cons.mp h.2.1).1 (by rw [← e]; exact List.mem_map_of_mem (f := (·.1)) hq)⟩
theorem led_turn {h₀ h h' : Heap} {L a : Addr} {m : Str → Option Value} {pre post rest : Led} {ob ob' : Obj} (F : Fr h₀ L h m) (N : News h₀ L h ((pre ++ (a, ob) :: post) ++ rest)) (ap : Apart (pre ++ (a, ob) :: post) rest)
    (k1 : ∀ q ∈ pre, q.1 ≠ a) (k2 : ∀ q ∈ post, q.1 ≠ a) (hs : Heap.SameBut a h h') (ho : h'.get? a = some ob') : Fr h₀ L h' m ∧ News h₀ L h' ((pre ++ (a, ob') :: post) ++ rest) ∧ Apart (pre ++ (a, ob') :: post) rest := by
  have hm : (a, ob) ∈ pre ++ (a, ob) :: post := List.mem_append_right _ (.head _)
  have hN := N _ (List.mem_append_left _ hm)
  refine ⟨F.change hs hN.2.1 hN.2.2, ?_, fun q hq r hr => ?_⟩
  · rw [List.append_assoc, List.cons_append] at N ⊢
    exact N.setAt k1 (fun q hq => (List.mem_append.mp hq).elim (k2 q) fun hq e => ap _ hm q hq e.symm) hs ho
  · rcases List.mem_append.mp hq with hq | hq
    · exact ap q (List.mem_append_left _ hq) r hr
    · rcases List.mem_cons.mp hq with rfl | hq
      · exact ap (a, ob) hm r hr
      · exact ap q (List.mem_append_right _ (.tail _ hq)) r hr
theorem At.toks {O : Type} {C : Cx O} {o : O} {ρ : Loc} {fz : Led} {s : Shared} (h : At C o ρ fz s) (tk : Nat) : At C o ρ fz { s with toks := tk } := by
  obtain ⟨h, tk', m, R, rfl, F, N, rp, ap, lc, rf⟩ := h
  exact ⟨h, tk, m, R, rfl, F, N, rp, ap, lc, rf⟩
theorem At.push {O : Type} {C : Cx O} {o : O} {ρ : Loc} {fz : Led} {s : Shared} (h : At C o ρ fz s) (ob : Obj) (hf : ob.isFreed = false := by rfl) :
    At C o ρ ((s.heap.objs.size, ob) :: fz) { s with heap := s.heap.push ob } := by
  obtain ⟨h, tk', m, R, rfl, F, N, rp, ap, lc, rf⟩ := h
  have N' := N.push F ob hf
  refine ⟨_, tk', m, R, rfl, F.push _, fun p hp => N' p ?_, C.mono _ _ _ _ (fun p hp => .tail _ hp) rp, ?_, lc.mono fun p hp => .tail _ hp, rf⟩
  · simp only [List.mem_append, List.mem_cons] at hp ⊢
    rcases hp with hp | (hp | hp) | hp
    · exact .inr (.inl hp)
    · exact .inl hp
    · exact .inr (.inr (.inl hp))
    · exact .inr (.inr (.inr hp))
  · intro p hp q hq
    simp only [List.cons_append, List.mem_cons] at hq
    rcases hq with rfl | hq
    · have := Heap.lt_size (N p (List.mem_append_left _ hp)).1
      exact Nat.ne_of_lt this
    · exact ap p hp q hq
theorem At.ext {O : Type} {C : Cx O} {o : O} {ρ : Loc} {fz : Led} {s : Shared} (h : At C o ρ fz s) {h' : Heap} (he : Heap.ExtBut s.heap.objs.size s.heap h') (tk : Nat) : At C o ρ fz { s with heap := h', toks := tk } := by
  obtain ⟨h, tk', m, R, rfl, F, N, rp, ap, lc, rf⟩ := h
  exact ⟨h', tk, m, R, rfl, F.extBut he (Nat.le_refl _), fun p hp => ⟨he p.1 p.2 (Nat.ne_of_lt (Heap.lt_size (N p hp).1)) (N p hp).1, (N p hp).2⟩, rp, ap, lc, rf⟩
section
variable {prog : Program} {w : World} {A : Around} {O : Type} {C : Cx O} {o : O} {env : Env} {I : Orc}
abbrev Sub (fz fz' : Led) : Prop := ∀ p ∈ fz, p ∈ fz'
def EvOk (prog : Program) (w : World) (A : Around) (C : Cx O) (o : O) (env : Env) (ρ : Loc) (e : Expr) (v : V) : Prop :=
  ∀ (fz : Led) (s : Shared) (Q : Value → Shared → Prop) (E : Value → Shared → Prop), At C o ρ fz s → (∀ fz' s' v', Sub fz fz' → At C o ρ fz' s' → VR fz' v v' → Q v' s') → wpAny (model prog w) A (eval e env) Q E s
def TrOk (prog : Program) (w : World) (A : Around) (C : Cx O) (o : O) (env : Env) (ρ : Loc) (e : Expr) (b : Bool) : Prop :=
  ∀ (fz : Led) (s : Shared) (Q : Bool → Shared → Prop) (E : Value → Shared → Prop), At C o ρ fz s → (∀ fz' s', Sub fz fz' → At C o ρ fz' s' → Q b s') → wpAny (model prog w) A (isTrue e env (eval e env)) Q E s
def EvsOk (prog : Program) (w : World) (A : Around) (C : Cx O) (o : O) (env : Env) (ρ : Loc) (es : List Expr) (vs : List V) : Prop :=
  ∀ (pos : Pos) (fz : Led) (s : Shared) (Q : List Value → Shared → Prop) (E : Value → Shared → Prop), At C o ρ fz s → (∀ fz' s' vs', Sub fz fz' → At C o ρ fz' s' → DatAll fz' vs' vs → Q vs' s') →
    wpAny (model prog w) A (spliced (backTo pos (starEach es env))) Q E s
def PartR (fz : Led) (v : Option V) (x : Value) : Prop := match v with
  | some d => VR fz d x
  | none => x = .none
def EvoOk (prog : Program) (w : World) (A : Around) (C : Cx O) (o : O) (env : Env) (ρ : Loc) (e : Option Expr) (v : Option V) : Prop :=
  ∀ (fz : Led) (s : Shared) (Q : Value → Shared → Prop) (E : Value → Shared → Prop), At C o ρ fz s →
    (∀ fz' s' v', Sub fz fz' → At C o ρ fz' s' → PartR fz' v v' → Q v' s') → wpAny (model prog w) A (evalPart e env) Q E s
structure OrcOk (prog : Program) (w : World) (A : Around) (C : Cx O) (o : O) (env : Env) (I : Orc) : Prop where
  fn : env.scope.kind = .function
  loc : env.locals = C.L
  names : ∀ x ∈ I.names, env.kindOf x = some .local
  attr : ∀ a v, I.attr a = some v → ∀ ρ p1 p2, EvOk prog w A C o env ρ (.Attribute (.Name I.self p1) a p2) v
  call : ∀ f ds d, I.callF f ds = some (true, d) → ∀ ρ (fz : Led) (s : Shared) (Q E : Value → Shared → Prop) p pos args, At C o ρ fz s → args.all notStar = true → args ≠ [] →
    wpAny (model prog w) A (spliced (backTo pos (starEach args env))) (fun vs s₁ => ∃ fz₁, Sub fz fz₁ ∧ At C o ρ fz₁ s₁ ∧ DatAll fz₁ vs ds ∧ ∀ fz' s' v', Sub fz₁ fz' → At C o ρ fz' s' → VR fz' d v' → Q v' s') E s →
    wpAny (model prog w) A (eval (.Call (.Name f p) args [] pos) env) Q E s
theorem star_off {e : Expr} {rest : List Expr} (h : notStar e = true) : starEach (e :: rest) env = (false, eval e env) :: starEach rest env := by
  cases e <;> first | rfl | exact cX h rfl rfl
theorem plain_off : ∀ {es : List Expr} (pos : Pos), es.all notStar = true → (backTo pos (starEach es env)).any (·.1) = false
  | [], _, _ => rfl
  | e :: r, pos, h => by
    rw [List.all_cons, Bool.and_eq_true] at h
    rw [star_off h.1]
    show (false || (backTo pos (starEach r env)).any (·.1)) = false
    rw [plain_off pos h.2]; rfl
theorem letTemp_str (v : Expr) (x : Str) (t : Tok) (r : Value) : letTemporaryGo v (.str x t) r = pure () := by cases v <;> rfl
theorem sub_plain {i : Expr} (h : notSlice i = true) (x k : Value) : subscripted i false x k = operate [x, k] (getItem x k) := by
  cases i <;> first | rfl | exact cX h rfl rfl
theorem ev_name (K : OrcOk prog w A C o env I) {ρ : Loc} {x : Str} {p : Pos} {v : V} (hx : I.names.contains x = true) (hd : (x != "__debug__") = true) (hv : ρ.lookup x = some v) : EvOk prog w A C o env ρ (.Name x p) v := by
  intro fz s Q E h hq
  obtain ⟨h', tk, m, R, rfl, F, N, rp, ap, lc, rf⟩ := id h
  obtain ⟨v', h1, h2⟩ := lc x v hv
  refine wpAny_Name (wpAny_loadName_local K.fn (K.names x (by simpa using hx)) (by rw [K.loc]; exact F.ns) h1 ?_) (by simpa using hd)
  exact hq fz _ v' (fun _ h => h) h h2
theorem ev_const {ρ : Loc} {c : Const} {k : Nat} {p : Pos} {v : V} (hc : constV c = some v) : EvOk prog w A C o env ρ (.Constant c k p) v := by
  intro fz s Q E h hq
  cases c with
  | none => obtain rfl := sj hc; exact wpAny_Constant_none (hq fz _ _ (fun _ h => h) h .none)
  | bool b => obtain rfl := sj hc; exact wpAny_Constant_bool (hq fz _ _ (fun _ h => h) h (.bool b))
  | int i => obtain rfl := sj hc; exact wpAny_Constant_int (hq fz _ _ (fun _ h => h) (h.toks _) (.int i _))
  | str x => obtain rfl := sj hc; exact wpAny_Constant_str (hq fz _ _ (fun _ h => h) (h.toks _) (.str x _))
  | _ => exact nn hc
theorem ev_cmp {ρ : Loc} {l r : Expr} {op : CmpOp} {p : Pos} {a b c : V} (ha : EvOk prog w A C o env ρ l a) (hb : EvOk prog w A C o env ρ r b) (hm : behindInMarks op r = false) (hc : cmpV op a b = some c) :
    EvOk prog w A C o env ρ (.Compare l [op] [r] p) c := by
  intro fz s Q E h hq
  refine wpAny_Compare1 (ha fz s _ E h fun fz₁ s₁ va s1 h1 x1 => hb fz₁ s₁ _ E h1 fun fz₂ s₂ vb s2 h2 x2 => ?_) hm
  exact cmp_sound (x1.mono s2) x2 hc fun v tk x => hq fz₂ _ v (fun p hp => s2 p (s1 p hp)) (h2.toks tk) x
theorem tr_cmp {ρ : Loc} {l r : Expr} {op : CmpOp} {p : Pos} {a b c : V} {t : Bool} (ha : EvOk prog w A C o env ρ l a) (hb : EvOk prog w A C o env ρ r b) (hm : behindInMarks op r = false) (hc : cmpV op a b = some c) (ht : truthV c = some t) :
    TrOk prog w A C o env ρ (.Compare l [op] [r] p) t := by
  intro fz s Q E h hq
  refine wpAny_isTrue_Compare1 (ha fz s _ E h fun fz₁ s₁ va s1 h1 x1 => hb fz₁ s₁ _ E h1 fun fz₂ s₂ vb s2 h2 x2 => ?_) hm
  exact cmp_sound (x1.mono s2) x2 hc fun v tk x => truth_sound x ht fun tk' => hq fz₂ _ (fun p hp => s2 p (s1 p hp)) ((h2.toks tk).toks tk')
theorem ev_chain {ρ : Loc} {l m r : Expr} {op op' : CmpOp} {p : Pos} {a b c : V} {t : Bool} {z : V} (ha : EvOk prog w A C o env ρ l a) (hb : EvOk prog w A C o env ρ m b) (hm : behindInMarks op' r = false) (hc : cmpV op a b = some c) (ht : truthV c = some t)
    (hr : if t then ∃ d, EvOk prog w A C o env ρ r d ∧ cmpV op' b d = some z else z = c) :
    EvOk prog w A C o env ρ (.Compare l [op, op'] [m, r] p) z := by
  intro fz s Q E h hq
  refine Compare_chain (rs := []) (ops := []) (ha fz s _ E h fun fz₁ s₁ va s1 h1 x1 => chain_link (hb fz₁ s₁ _ E h1 fun fz₂ s₂ vb s2 h2 x2 => ?_)) (by simpa [lastMarks] using hm)
  refine cmp_sound (x1.mono s2) x2 hc fun v tk x => truth_sound x ht fun tk' => ?_
  cases t with
  | false =>
    simp only [Bool.false_eq_true, if_false] at hr ⊢
    subst hr
    exact hq fz₂ _ v (fun p hp => s2 p (s1 p hp)) ((h2.toks tk).toks tk') x
  | true =>
    simp only [if_true] at hr ⊢
    obtain ⟨d, hd, he⟩ := hr
    refine chain_last (hd fz₂ _ _ E ((h2.toks tk).toks tk') fun fz₃ s₃ vd s3 h3 x3 => ?_)
    exact cmp_sound (x2.mono s3) x3 he fun v tk x => hq fz₃ _ v (fun p hp => s3 p (s2 p (s1 p hp))) (h3.toks tk) x
theorem test_link {M : Model} {E : Value → Shared → Prop} {s : Shared} {pos : Pos} {a : Value} {op op' : CmpOp} {ops : List CmpOp} {r r' : Sem Value} {rs : List (Sem Value)} {Q : Bool → Shared → Prop}
    (h : wpAny M A r (fun b s₁ => wpAny M A (compareOp op a b) (fun c s₂ => wpAny M A (truthy c)
      (fun t s₃ => if t then wpAny M A (testChain pos b (op' :: ops) (r' :: rs)) Q E s₃ else Q false s₃) E s₂) E s₁) E s) :
    wpAny M A (testChain pos a (op :: op' :: ops) (r :: r' :: rs)) Q E s := by
  exact PyProof.Rows.test_link h
theorem tr_chain {ρ : Loc} {l m r : Expr} {op op' : CmpOp} {p : Pos} {a b c : V} {t : Bool} {z : Bool} (ha : EvOk prog w A C o env ρ l a) (hb : EvOk prog w A C o env ρ m b) (hm : behindInMarks op' r = false) (hc : cmpV op a b = some c) (ht : truthV c = some t)
    (hr : if t then ∃ d e, EvOk prog w A C o env ρ r d ∧ cmpV op' b d = some e ∧ truthV e = some z else z = false) :
    TrOk prog w A C o env ρ (.Compare l [op, op'] [m, r] p) z := by
  intro fz s Q E h hq
  refine isTrue_chain (rs := []) (ops := []) (ha fz s _ E h fun fz₁ s₁ va s1 h1 x1 => test_link (hb fz₁ s₁ _ E h1 fun fz₂ s₂ vb s2 h2 x2 => ?_)) (by simpa [lastMarks] using hm)
  refine cmp_sound (x1.mono s2) x2 hc fun v tk x => truth_sound x ht fun tk' => ?_
  cases t with
  | false =>
    simp only [Bool.false_eq_true, if_false] at hr ⊢
    subst hr
    exact hq fz₂ _ (fun p hp => s2 p (s1 p hp)) ((h2.toks tk).toks tk')
  | true =>
    simp only [if_true] at hr ⊢
    obtain ⟨d, e, hd, he, hz⟩ := hr
    refine test_last (hd fz₂ _ _ E ((h2.toks tk).toks tk') fun fz₃ s₃ vd s3 h3 x3 => ?_)
    exact cmp_sound (x2.mono s3) x3 he fun v tk x => truth_sound x hz fun tk' => hq fz₃ _ (fun p hp => s3 p (s2 p (s1 p hp))) ((h3.toks tk).toks tk')
theorem ev_and {ρ : Loc} {e e' : Expr} {rest : List Expr} {p : Pos} {v z : V} {t : Bool} (ha : EvOk prog w A C o env ρ e v) (ht : truthV v = some t) (hr : if t then EvOk prog w A C o env ρ (.BoolOp .And (e' :: rest) p) z else z = v) :
    EvOk prog w A C o env ρ (.BoolOp .And (e :: e' :: rest) p) z := by
  intro fz s Q E h hq
  refine BoolOp_and (ha fz s _ E h fun fz₁ s₁ va s1 h1 x1 => truth_sound x1 ht fun tk => ?_)
  cases t with
  | false => simp only [Bool.false_eq_true, if_false] at hr ⊢; subst hr; exact hq fz₁ _ va s1 (h1.toks tk) x1
  | true => simp only [if_true] at hr ⊢; exact hr fz₁ _ Q E (h1.toks tk) fun fz₂ s₂ v' s2 h2 x2 => hq fz₂ s₂ v' (fun p hp => s2 p (s1 p hp)) h2 x2
theorem ev_or {ρ : Loc} {e e' : Expr} {rest : List Expr} {p : Pos} {v z : V} {t : Bool} (ha : EvOk prog w A C o env ρ e v) (ht : truthV v = some t) (hr : if t then z = v else EvOk prog w A C o env ρ (.BoolOp .Or (e' :: rest) p) z) :
    EvOk prog w A C o env ρ (.BoolOp .Or (e :: e' :: rest) p) z := by
  intro fz s Q E h hq
  refine BoolOp_or (ha fz s _ E h fun fz₁ s₁ va s1 h1 x1 => truth_sound x1 ht fun tk => ?_)
  cases t with
  | true => simp only [if_true] at hr ⊢; subst hr; exact hq fz₁ _ va s1 (h1.toks tk) x1
  | false => simp only [Bool.false_eq_true, if_false] at hr ⊢; exact hr fz₁ _ Q E (h1.toks tk) fun fz₂ s₂ v' s2 h2 x2 => hq fz₂ s₂ v' (fun p hp => s2 p (s1 p hp)) h2 x2
theorem tr_one {ρ : Loc} {e : Expr} {op : BoolOp} {p : Pos} {t : Bool} (ha : TrOk prog w A C o env ρ e t) : TrOk prog w A C o env ρ (.BoolOp op [e] p) t := by
  intro fz s Q E h hq
  cases op with
  | And =>
    refine isTrue_and (ha fz s _ E h fun fz₁ s₁ s1 h1 => ?_)
    cases t with
    | false => exact hq fz₁ s₁ s1 h1
    | true => exact isTrue_and_nil (hq fz₁ s₁ s1 h1)
  | Or =>
    refine isTrue_or (ha fz s _ E h fun fz₁ s₁ s1 h1 => ?_)
    cases t with
    | true => exact hq fz₁ s₁ s1 h1
    | false => exact isTrue_or_nil (hq fz₁ s₁ s1 h1)
theorem whole_and {M : Model} {E : Value → Shared → Prop} {s : Shared} {vs : List Expr} {op : BoolOp} {p : Pos} {w1 w2 : Sem Value} {Q : Bool → Shared → Prop} (h : wpAny M A (isTrue (.BoolOp op vs p) env w1) Q E s) : wpAny M A (isTrue (.BoolOp op vs p) env w2) Q E s := h
theorem tr_and {ρ : Loc} {e e' : Expr} {rest : List Expr} {p : Pos} {t z : Bool} (ha : TrOk prog w A C o env ρ e t) (hr : if t then TrOk prog w A C o env ρ (.BoolOp .And (e' :: rest) p) z else z = false) :
    TrOk prog w A C o env ρ (.BoolOp .And (e :: e' :: rest) p) z := by
  intro fz s Q E h hq
  refine isTrue_and (ha fz s _ E h fun fz₁ s₁ s1 h1 => ?_)
  cases t with
  | false => simp only [Bool.false_eq_true, if_false] at hr ⊢; subst hr; exact hq fz₁ _ s1 h1
  | true => simp only [if_true] at hr ⊢; exact whole_and (hr fz₁ _ Q E h1 fun fz₂ s₂ s2 h2 => hq fz₂ s₂ (fun p hp => s2 p (s1 p hp)) h2)
theorem tr_or {ρ : Loc} {e e' : Expr} {rest : List Expr} {p : Pos} {t z : Bool} (ha : TrOk prog w A C o env ρ e t) (hr : if t then z = true else TrOk prog w A C o env ρ (.BoolOp .Or (e' :: rest) p) z) :
    TrOk prog w A C o env ρ (.BoolOp .Or (e :: e' :: rest) p) z := by
  intro fz s Q E h hq
  refine isTrue_or (ha fz s _ E h fun fz₁ s₁ s1 h1 => ?_)
  cases t with
  | true => simp only [if_true] at hr ⊢; subst hr; exact hq fz₁ _ s1 h1
  | false => simp only [Bool.false_eq_true, if_false] at hr ⊢; exact whole_and (hr fz₁ _ Q E h1 fun fz₂ s₂ s2 h2 => hq fz₂ s₂ (fun p hp => s2 p (s1 p hp)) h2)
theorem ev_not {ρ : Loc} {e : Expr} {p : Pos} {v : V} {t : Bool} (ha : EvOk prog w A C o env ρ e v) (ht : truthV v = some t) : EvOk prog w A C o env ρ (.UnaryOp .Not e p) (.bool (!t)) := by
  intro fz s Q E h hq
  refine UnaryOp_ (ha fz s _ E h fun fz₁ s₁ va s1 h1 x1 => not_of (truth_sound x1 ht fun tk => ?_))
  exact hq fz₁ _ _ s1 (h1.toks tk) (.bool _)
theorem ev_neg {ρ : Loc} {e : Expr} {p : Pos} {i : Int} (ha : EvOk prog w A C o env ρ e (.int i)) : EvOk prog w A C o env ρ (.UnaryOp .USub e p) (.int (-i)) := by
  intro fz s Q E h hq
  refine UnaryOp_ (ha fz s _ E h fun fz₁ s₁ va s1 h1 x1 => ?_)
  cases x1
  exact PyProof.Rows.neg_int (hq fz₁ _ _ s1 (h1.toks _) (.int _ _))
theorem tr_not {ρ : Loc} {e : Expr} {p : Pos} {t : Bool} (ha : TrOk prog w A C o env ρ e t) : TrOk prog w A C o env ρ (.UnaryOp .Not e p) (!t) := by
  intro fz s Q E h hq
  exact isTrue_not (ha fz s _ E h fun fz₁ s₁ s1 h1 => hq fz₁ s₁ s1 h1)
theorem tr_plain {ρ : Loc} {e : Expr} {v : V} {t : Bool} (ha : EvOk prog w A C o env ρ e v) (ht : truthV v = some t) (hp : plainTest e = true) : TrOk prog w A C o env ρ e t := by
  intro fz s Q E h hq
  refine isTrue_plain (ha fz s _ E h fun fz₁ s₁ va s1 h1 x1 => truth_sound x1 ht fun tk => hq fz₁ _ s1 (h1.toks tk)) ?_
  cases e with
  | UnaryOp op x p => cases op <;> first | rfl | exact cX hp rfl rfl
  | _ => first | rfl | exact cX hp rfl rfl
theorem ev_binO {ρ : Loc} {l r : Expr} {op : Operator} {p : Pos} {a b c : V} (ha : EvOk prog w A C o env ρ l a) (hb : EvOk prog w A C o env ρ r b) (hc : BinOk prog w binaryOp op a b c) : EvOk prog w A C o env ρ (.BinOp l op r p) c := by
  intro fz s Q E h hq
  refine wpAny_BinOp (ha fz s _ E h fun fz₁ s₁ va s1 h1 x1 => hb fz₁ s₁ _ E h1 fun fz₂ s₂ vb s2 h2 x2 => ?_)
  exact hc (x1.mono s2) x2 fun v tk x => hq fz₂ _ v (fun p hp => s2 p (s1 p hp)) (h2.toks tk) x
theorem ev_bin {ρ : Loc} {l r : Expr} {op : Operator} {p : Pos} {a b c : V} (ha : EvOk prog w A C o env ρ l a) (hb : EvOk prog w A C o env ρ r b) (hc : binV op a b = some c) : EvOk prog w A C o env ρ (.BinOp l op r p) c := by
  obtain ⟨d, hd, e⟩ := binK_of (prog := prog) (w := w) hc
  obtain rfl := sj e
  exact ev_binO ha hb hd
theorem ev_if {ρ : Loc} {c b e : Expr} {p : Pos} {t : Bool} {z : V} (hc : TrOk prog w A C o env ρ c t) (hz : if t then EvOk prog w A C o env ρ b z else EvOk prog w A C o env ρ e z) : EvOk prog w A C o env ρ (.IfExp c b e p) z := by
  intro fz s Q E h hq
  refine IfExp_ (hc fz s _ E h fun fz₁ s₁ s1 h1 => ?_)
  cases t with
  | true => simp only [if_true] at hz ⊢; exact hz fz₁ _ Q E h1 fun fz₂ s₂ v s2 h2 x2 => hq fz₂ s₂ v (fun p hp => s2 p (s1 p hp)) h2 x2
  | false => simp only [Bool.false_eq_true, if_false] at hz ⊢; exact hz fz₁ _ Q E h1 fun fz₂ s₂ v s2 h2 x2 => hq fz₂ s₂ v (fun p hp => s2 p (s1 p hp)) h2 x2
theorem tr_if {ρ : Loc} {c b e : Expr} {p : Pos} {t z : Bool} (hc : TrOk prog w A C o env ρ c t) (hz : if t then TrOk prog w A C o env ρ b z else TrOk prog w A C o env ρ e z) : TrOk prog w A C o env ρ (.IfExp c b e p) z := by
  intro fz s Q E h hq
  refine isTrue_IfExp (hc fz s _ E h fun fz₁ s₁ s1 h1 => ?_)
  cases t with
  | true => simp only [if_true] at hz ⊢; exact hz fz₁ _ Q E h1 fun fz₂ s₂ s2 h2 => hq fz₂ s₂ (fun p hp => s2 p (s1 p hp)) h2
  | false => simp only [Bool.false_eq_true, if_false] at hz ⊢; exact hz fz₁ _ Q E h1 fun fz₂ s₂ s2 h2 => hq fz₂ s₂ (fun p hp => s2 p (s1 p hp)) h2
theorem evs_nil {ρ : Loc} : EvsOk prog w A C o env ρ [] [] := by
  intro pos fz s Q E h hq
  exact spliced_none (hq fz s [] (fun _ h => h) h .nil)
theorem evs_cons {ρ : Loc} {e : Expr} {es : List Expr} {v : V} {vs : List V} (he : notStar e = true) (ha : EvOk prog w A C o env ρ e v) (hr : EvsOk prog w A C o env ρ es vs) : EvsOk prog w A C o env ρ (e :: es) (v :: vs) := by
  intro pos fz s Q E h hq
  refine spliced_more (ha fz s _ E h fun fz₁ s₁ va s1 h1 x1 => hr pos fz₁ s₁ _ E h1 fun fz₂ s₂ vs' s2 h2 x2 => ?_) (star_off he)
  exact hq fz₂ s₂ _ (fun p hp => s2 p (s1 p hp)) h2 (.cons (x1.mono s2) x2)
theorem allStr_is {fz : Led} : ∀ {ds : List V} {vs : List Value} {ys : List Str}, DatAll fz vs ds → allStr ds = some ys → StrsAre vs ys
  | [], vs, ys, hv, h => by
    obtain rfl := sj h
    cases hv; exact .nil
  | d :: ds, vs, ys, hv, h => by
    obtain ⟨y, h1, k1⟩ := opt_of h
    obtain ⟨zs, h2, k2⟩ := opt_of k1
    obtain rfl := strOf_is h1
    obtain rfl := sj k2
    cases hv with
    | cons hv hr =>
      obtain ⟨t, rfl⟩ := vr_str hv
      exact .cons y t (allStr_is hr h2)
theorem in_tup {A : Around} {fz : Led} {s : Shared} {a : V} {ds : List V} {va : Value} {vs : List Value} {t : Addr} {r : V} {Q E : Value → Shared → Prop} (xa : VR fz a va) (hv : DatAll fz vs ds) (ht : IsTup s.heap t vs.toArray)
    (h : inTup a ds = some r) (hq : ∀ v, VR fz r v → Q v s) : wpAny (model prog w) A (compareOp .In va (.ref t)) Q E s := by
  obtain ⟨x, h1, k1⟩ := opt_of h
  obtain ⟨ys, h2, k2⟩ := opt_of k1
  obtain rfl := strOf_is h1
  obtain ⟨tk, rfl⟩ := vr_str xa
  obtain rfl := sj k2
  exact in_tuple_strs ht (by simpa using allStr_is hv h2) (hq _ (.bool _))
theorem tup_pushed {fz : Led} {ρ : Loc} {s : Shared} {vs : List Value} (h : At C o ρ fz s) : IsTup (s.heap.push { cls := .type "tuple", data := .seq vs.toArray }) s.heap.objs.size vs.toArray :=
  ⟨_, Heap.get?_push_size _ rfl, rfl, 0, rfl⟩
theorem ev_intup {ρ : Loc} {l : Expr} {es : List Expr} {k : Nat} {p p' : Pos} {a : V} {ds : List V} {r : V} (ha : EvOk prog w A C o env ρ l a) (hb : EvsOk prog w A C o env ρ es ds) (hz : ds.length ≤ 1000) (hc : inTup a ds = some r) :
    EvOk prog w A C o env ρ (.Compare l [.In] [.Tuple es k p'] p) r := by
  intro fz s Q E h hq
  refine wpAny_Compare1 (ha fz s _ E h fun fz₁ s₁ va s1 h1 x1 => wpAny_Tuple (hb p' fz₁ s₁ _ E h1 fun fz₂ s₂ vs s2 h2 x2 => ⟨?_, ?_⟩)) rfl
  · rw [x2.length, sizeLine_eq]; lia
  · have h3 := h2.push { cls := .type "tuple", data := .seq vs.toArray }
    refine in_tup (x1.mono s2) x2 (tup_pushed h2) hc fun v x => hq _ _ v (fun p hp => .tail _ (s2 p (s1 p hp))) h3 (x.mono fun p hp => .tail _ hp)
theorem item_fits {s : Str} {j : Int} (h : (strOk s && decide (-(s.length : Int) ≤ j) && decide (j < s.length)) = true) : fitsSsize j = true ∧ -(s.length : Int) ≤ j ∧ j < s.length := by
  simp only [Bool.and_eq_true, decide_eq_true_eq] at h
  have hl := strOk_le h.1.1
  exact ⟨fitsSsize_of (N := 9223372036854775808) (by lia) (by lia) (Int.le_refl _), h.1.2, h.2⟩
theorem ev_item {ρ : Loc} {v i : Expr} {p : Pos} {y : Str} {j : Int} (hx : EvOk prog w A C o env ρ v (.str y)) (hi : EvOk prog w A C o env ρ i (.int j)) (hs : notSlice i = true) (hc : (strOk y && decide (-(y.length : Int) ≤ j) && decide (j < y.length)) = true) : EvOk prog w A C o env ρ (.Subscript v i p) (.str (Txt.item y j)) := by
  intro fz s Q E h hq
  refine Subscript_ (hx fz s _ E h fun fz₁ s₁ va s1 h1 x1 => hi fz₁ s₁ _ E h1 fun fz₂ s₂ vb s2 h2 x2 => ?_)
  obtain ⟨_, rfl⟩ := vr_str x1
  obtain ⟨_, rfl⟩ := vr_int x2
  obtain ⟨h3, h4, h5⟩ := item_fits hc
  exact item_str h3 h4 h5 (fun _ => hq fz₂ _ _ (fun p hp => s2 p (s1 p hp)) (h2.toks _) (.str _ _)) (sub_plain hs _ _) (fun r => letTemp_str _ _ _ r)
theorem evo_none {ρ : Loc} : EvoOk prog w A C o env ρ Option.none Option.none := by
  intro fz s Q E h hq
  exact evalPart_none_step (hq fz s _ (fun _ h => h) h rfl)
theorem evo_some {ρ : Loc} {e : Expr} {v : V} (he : EvOk prog w A C o env ρ e v) : EvoOk prog w A C o env ρ (some e) (some v) := by
  intro fz s Q E h hq
  exact evalPart_some_step (he fz s Q E h hq)
theorem At.now {ρ : Loc} {fz : Led} {s : Shared} (h : At C o ρ fz s) : ∃ m news, Fr C.h₀ C.L s.heap m ∧ News C.h₀ C.L s.heap news ∧ ∀ h' tk, Fr C.h₀ C.L h' m → News C.h₀ C.L h' news → At C o ρ fz { s with heap := h', toks := tk } := by
  obtain ⟨h, tk', m, R, rfl, F, N, rp, ap, lc, rf⟩ := h
  exact ⟨m, _, F, N, fun h' tk F' N' => ⟨h', tk, m, R, rfl, F', N', rp, ap, lc, rf⟩⟩
noncomputable def optInt (l : Option Int) : Option V := l.map .int
theorem part_int {fz : Led} {l : Option Int} {v : Value} (h : PartR fz (optInt l) v) : (l = none ∧ v = .none) ∨ ∃ i t, l = some i ∧ v = .int i t := by
  cases l with
  | none => exact .inl ⟨rfl, h⟩
  | some i => obtain ⟨t, e⟩ := vr_int h; exact .inr ⟨i, t, rfl, e⟩
theorem ev_slice {ρ : Loc} {v : Expr} {lo hi : Option Expr} {p p' : Pos} {y : Str} {l u : Option Int} (hx : EvOk prog w A C o env ρ v (.str y)) (hl : EvoOk prog w A C o env ρ lo (optInt l)) (hu : EvoOk prog w A C o env ρ hi (optInt u)) (hy : strOk y = true) (hlu : (l.isSome || u.isSome) = true) :
    EvOk prog w A C o env ρ (.Subscript v (.Slice lo hi Option.none p') p) (.str (Txt.slice y l u)) := by
  intro fz s Q E h hq
  refine Subscript_ (hx fz s _ E h fun fz₁ s₁ va s1 h1 x1 => wpAny_Slice (hl fz₁ s₁ _ E h1 fun fz₂ s₂ vl s2 h2 x2 => hu fz₂ s₂ _ E h2 fun fz₃ s₃ vu s3 h3 x3 => evalPart_none_step ?_))
  obtain ⟨m, news, F, N, back⟩ := h3.now
  have back' : ∀ (h' : Heap) (tk : Nat) (t : Tok), Fr C.h₀ C.L h' m → News C.h₀ C.L h' news → Q (.str (Txt.slice y l u) t) { s₃ with heap := h', toks := tk } := fun h' tk t F' N' => hq fz₃ _ _ (fun p hp => s3 p (s2 p (s1 p hp))) (back h' tk F' N') (.str _ _)
  clear back hq
  have hle : y.length < sizeLine := by have := strOk_le hy; rw [sizeLine_eq]; lia
  obtain ⟨_, rfl⟩ := vr_str x1
  rcases part_int x2 with ⟨rfl, rfl⟩ | ⟨i, _, rfl, rfl⟩
  · rcases part_int x3 with ⟨rfl, rfl⟩ | ⟨j, _, rfl, rfl⟩
    · exact absurd hlu Bool.false_ne_true
    · exact slice_strN_ns F N (fun h' t' k F' N' => back' h' k t' F' N') rfl (fun r => letTemp_str _ _ _ r) (Nat.le_of_lt hle)
  · rcases part_int x3 with ⟨rfl, rfl⟩ | ⟨j, _, rfl, rfl⟩
    · exact slice_strN_sn F N (fun h' t' k F' N' => back' h' k t' F' N') rfl (fun r => letTemp_str _ _ _ r) (Nat.le_of_lt hle)
    · exact slice_strN_ss F N (fun h' t' k F' N' => back' h' k t' F' N') rfl (fun r => letTemp_str _ _ _ r) (Nat.le_of_lt hle)
theorem callWith_more {M : Model} {E : Value → Shared → Prop} {s : Shared} {pos : Pos} {id : String} {first : List Value} {e : Expr} {rest : List Expr} {Q : Value → Shared → Prop} (hs : (e :: rest).all notStar = true)
    (h : wpAny M A (spliced (backTo pos (starEach (e :: rest) env))) (fun vs s₁ => wpAny M A (call (.builtin id) (first ++ vs)) Q E s₁) E s) : wpAny M A (callWith pos (.builtin id) first (backTo pos (starEach (e :: rest) env)) []) Q E s := by
  rw [List.all_cons, Bool.and_eq_true] at hs
  exact callWith_method1 h (star_off hs.1) (plain_off pos hs.2)
theorem meth_eq {v : Expr} {name : Str} {args : List Expr} {p p' : Pos} (hb : methBase v = true) (hs : args.all notStar = true) (hk : args.length ≤ 4) (hl : (p'.endLine == p.line) = true) :
    eval (.Call (.Attribute v name p') args [] p) env = (do
      let ov ← eval v env
      standAt p'.atName
      let (f, first) ← holding [ov] (getMethod ov name (do return (← importBound v env).getD true))
      callWith p f first (backTo p (starEach args env)) []) := by
  have h1 : eval (.Call (.Attribute v name p') args [] p) env = (do
      let ov ← eval v env
      standAt p'.atName
      methodCall v name p' p env ov (args.length + 0) (backTo p (starEach args env)) []) := by
    cases v <;> first | rfl | exact cX hb rfl rfl
  have hf : methodCallForm (args.length + 0) (backTo p (starEach args env)) [] = true := by
    unfold methodCallForm
    have := plain_off (env := env) p hs
    simp only [List.any_eq_false] at this
    simp only [Nat.add_zero, List.isEmpty_nil, if_true, Bool.and_eq_true, List.all_eq_true, decide_eq_true_eq, List.all_nil, and_true]
    exact ⟨fun x hx => by simpa using this x hx, by lia⟩
  rw [h1]
  unfold methodCall calleeOf methodCallPos
  rw [hf, hl]
  simp only [if_true, Bool.not_true, Bool.false_or]
  rfl
theorem ev_meth1 {name : Str} {d : V} {y : Str} {ds : List V} {ρ : Loc} {v : Expr} {args : List Expr} {p p' : Pos} (hx : EvOk prog w A C o env ρ v (.str y)) (ha : EvsOk prog w A C o env ρ args ds) (hs : args.all notStar = true) (hn : args ≠ []) (hb : methBase v = true) (hk : args.length ≤ 4) (hl : (p'.endLine == p.line) = true)
    (bi : String) (hg : ∀ {A : Around} {E : Value → Shared → Prop} {s : Shared} {t : Tok} {m : Sem Bool} {Q : Value × List Value → Shared → Prop}, Q (.builtin bi, [.str y t]) s → wpAny (model prog w) A (getMethod (.str y t) name m) Q E s)
    (hc : ∀ {A : Around} {E : Value → Shared → Prop} {s : Shared} {fz : Led} {vs : List Value} {t : Tok} {Q : Value → Shared → Prop}, DatAll fz vs ds → (∀ u tk, VR fz d u → Q u { s with toks := tk }) → wpAny (model prog w) A (call (.builtin bi) (.str y t :: vs)) Q E s) :
    EvOk prog w A C o env ρ (.Call (.Attribute v name p') args [] p) d := by
  intro fz s Q E h hq
  cases args with
  | nil => exact absurd rfl hn
  | cons e rest =>
  refine MethodCall_ (pl := _) (hx fz s _ E h fun fz₁ s₁ va s1 h1 x1 => ?_) (meth_eq hb hs hk hl)
  obtain ⟨_, rfl⟩ := vr_str x1
  refine hg (callWith_more hs (ha p fz₁ s₁ _ E h1 fun fz₂ s₂ vs s2 h2 x2 => ?_))
  exact hc x2 fun u tk hu => hq fz₂ _ _ (fun p hp => s2 p (s1 p hp)) (h2.toks tk) hu
theorem datAll_nil {fz : Led} {vs : List Value} (h : DatAll fz vs []) : vs = [] := by cases h; rfl
theorem datAll_more {fz : Led} {vs : List Value} {d : V} {ds : List V} (h : DatAll fz vs (d :: ds)) : ∃ v us, vs = v :: us ∧ VR fz d v ∧ DatAll fz us ds := by cases h with | cons a b => exact ⟨_, _, rfl, a, b⟩
theorem datAll_1 {fz : Led} {vs : List Value} {d : V} (h : DatAll fz vs [d]) : ∃ v, vs = [v] ∧ VR fz d v := by
  cases h with | cons a b => cases b; exact ⟨_, rfl, a⟩
theorem datAll_2 {fz : Led} {vs : List Value} {d e : V} (h : DatAll fz vs [d, e]) : ∃ v u, vs = [v, u] ∧ VR fz d v ∧ VR fz e u := by
  cases h with | cons a b => obtain ⟨u, rfl, hu⟩ := datAll_1 b; exact ⟨_, u, rfl, a, hu⟩
theorem ev_meth {ρ : Loc} {v : Expr} {name : Str} {args : List Expr} {p p' : Pos} {x r : V} {ds : List V} (hx : EvOk prog w A C o env ρ v x) (ha : EvsOk prog w A C o env ρ args ds) (hs : args.all notStar = true) (hn : args ≠ []) (hb : methBase v = true) (hk : args.length ≤ 4) (hl : (p'.endLine == p.line) = true) (hc : methV (methId name) x ds = some r) :
    EvOk prog w A C o env ρ (.Call (.Attribute v name p') args [] p) r := by
  obtain ⟨y, hy, k0⟩ := opt_of hc
  clear hc
  obtain rfl := strOf_is hy
  generalize hm : methId name = k at k0
  match k, hm, k0 with
  | 0, _, hc => exact nn hc
  | 1, hm, hc =>
    obtain rfl := methId_1 hm
    rcases opt_or hc with ⟨d, h1, k1⟩ | ⟨_, k1⟩
    · obtain rfl := one_is h1
      obtain ⟨z, h2, k2⟩ := opt_of k1
      obtain rfl := strOf_is h2
      obtain rfl := sj k2
      refine ev_meth1 hx ha hs hn hb hk hl "str.find" (fun h => GM.find h) fun xs hq => ?_
      obtain ⟨v, rfl, xv⟩ := datAll_1 xs
      obtain ⟨_, rfl⟩ := vr_str xv
      exact SC.find (hq _ _ (.int _ _))
    · obtain ⟨⟨d1, d2⟩, h1, k2⟩ := opt_of k1
      obtain rfl := two_is h1
      obtain ⟨z, h2, k3⟩ := opt_of k2
      obtain ⟨i, h3, k4⟩ := opt_of k3
      obtain rfl := strOf_is (d := d1) h2
      obtain rfl := intOf_is (d := d2) h3
      obtain rfl := sj k4
      refine ev_meth1 hx ha hs hn hb hk hl "str.find" (fun h => GM.find h) fun xs hq => ?_
      obtain ⟨v, u, rfl, xv, xu⟩ := datAll_2 xs
      obtain ⟨_, rfl⟩ := vr_str xv
      obtain ⟨_, rfl⟩ := vr_int xu
      exact SC.find3 (hq _ _ (.int _ _))
  | k + 2, hm, hc =>
    have hm : methId name = 2 := by
      unfold methId at hm ⊢
      split at hm
      · cases hm
      · split at hm
        · rename_i q1 q2; rw [if_neg q1, if_pos q2]
        · cases hm
    obtain rfl := methId_2 hm
    obtain ⟨d, h1, k1⟩ := opt_of hc
    obtain rfl := one_is h1
    obtain ⟨z, h2, k2⟩ := opt_of k1
    obtain rfl := strOf_is h2
    obtain rfl := sj k2
    refine ev_meth1 hx ha hs hn hb hk hl "str.count" (fun h => GM.count h) fun xs hq => ?_
    obtain ⟨v, rfl, xv⟩ := datAll_1 xs
    obtain ⟨_, rfl⟩ := vr_str xv
    exact SC.count (hq _ _ (.int _ _))
theorem ev_call (K : OrcOk prog w A C o env I) {ρ : Loc} {f : Str} {args : List Expr} {p p' : Pos} {r : V} {ds : List V} (ha : EvsOk prog w A C o env ρ args ds) (hs : args.all notStar = true) (hn : args ≠ []) (hc : I.callF f ds = some (true, r)) :
    EvOk prog w A C o env ρ (.Call (.Name f p') args [] p) r := by
  intro fz s Q E h hq
  refine K.call f ds r hc ρ fz s Q E p' p args h hs hn (ha p fz s _ E h fun fz₁ s₁ vs s1 h1 x1 => ⟨fz₁, s1, h1, x1, fun fz' s' v' s2 h2 x2 => hq fz' s' v' (fun p hp => s2 p (s1 p hp)) h2 x2⟩)
theorem tr_intup {ρ : Loc} {l : Expr} {es : List Expr} {k : Nat} {p p' : Pos} {a : V} {ds : List V} {r : V} {t : Bool} (ha : EvOk prog w A C o env ρ l a) (hb : EvsOk prog w A C o env ρ es ds) (hz : ds.length ≤ 1000) (hc : inTup a ds = some r) (ht : truthV r = some t) :
    TrOk prog w A C o env ρ (.Compare l [.In] [.Tuple es k p'] p) t := by
  intro fz s Q E h hq
  refine wpAny_isTrue_Compare1 (ha fz s _ E h fun fz₁ s₁ va s1 h1 x1 => wpAny_Tuple (hb p' fz₁ s₁ _ E h1 fun fz₂ s₂ vs s2 h2 x2 => ⟨?_, ?_⟩)) rfl
  · rw [x2.length, sizeLine_eq]; lia
  · have h3 := h2.push { cls := .type "tuple", data := .seq vs.toArray }
    exact in_tup (x1.mono s2) x2 (tup_pushed h2) hc fun v x => truth_sound x ht fun tk => hq _ _ (fun p hp => .tail _ (s2 p (s1 p hp))) (h3.toks tk)
theorem ev_tuple {ρ : Loc} {es : List Expr} {k : Nat} {p : Pos} {ds : List V} (hb : EvsOk prog w A C o env ρ es ds) (hz : ds.length ≤ 1000) : EvOk prog w A C o env ρ (.Tuple es k p) (.tuple ds) := by
  intro fz s Q E h hq
  refine wpAny_Tuple (hb p fz s _ E h fun fz₁ s₁ vs s1 h1 x1 => ⟨?_, ?_⟩)
  · rw [x1.length, sizeLine_eq]; lia
  · exact hq _ _ _ (fun p hp => .tail _ (s1 p hp)) (h1.push { cls := .type "tuple", data := .seq vs.toArray }) (.tuple (.head _) (x1.mono fun p hp => .tail _ hp))
theorem ev_list {ρ : Loc} {es : List Expr} {p : Pos} {ds : List V} (hb : EvsOk prog w A C o env ρ es ds) (hz : ds.length ≤ 1000) : EvOk prog w A C o env ρ (.List es p) (.list ds) := by
  intro fz s Q E h hq
  refine wpAny_List (hb p fz s _ E h fun fz₁ s₁ vs s1 h1 x1 => ⟨?_, ?_⟩)
  · rw [x1.length, sizeLine_eq]; lia
  · exact hq _ _ _ (fun p hp => .tail _ (s1 p hp)) (h1.push { cls := .type "list", data := .seq vs.toArray }) (.list (.head _) (x1.mono fun p hp => .tail _ hp))
end
noncomputable def fixV (v : V) (t : Bool) : V := match v with
  | .bool _ => .bool t
  | v => v
theorem fixV_is {v : V} {t : Bool} (h : truthV v = some t) : fixV v t = v := by
  cases v <;> first | rfl | exact congrArg _ (sj h).symm
noncomputable def nameOf1 : Expr → Option Str
  | .Name x _ => some x
  | _ => none
theorem nameOf1_is {e : Expr} {x : Str} (h : nameOf1 e = some x) : ∃ p, e = .Name x p := by
  cases e <;> first | exact nn h | exact ⟨_, congrArg (Expr.Name · _) (sj h)⟩
noncomputable def vAttr : Expr → Option (Expr × Str × Pos)
  | .Attribute v a p => some (v, a, p)
  | _ => none
theorem vAttr_is {e : Expr} {x : Expr × Str × Pos} (h : vAttr e = some x) : e = .Attribute x.1 x.2.1 x.2.2 := by
  cases e <;> first | exact nn h | (obtain rfl := sj h; rfl)
noncomputable def vTuple : Expr → Option (List Expr × Nat × Pos)
  | .Tuple es n p => some (es, n, p)
  | _ => none
theorem vTuple_is {e : Expr} {x : List Expr × Nat × Pos} (h : vTuple e = some x) : e = .Tuple x.1 x.2.1 x.2.2 := by
  cases e <;> first | exact nn h | (obtain rfl := sj h; rfl)
noncomputable def vSlice : Expr → Option (Option Expr × Option Expr × Pos)
  | .Slice lo hi st p => match st with
    | none => some (lo, hi, p)
    | some _ => none
  | _ => none
theorem vSlice_is {e : Expr} {x : Option Expr × Option Expr × Pos} (h : vSlice e = some x) : e = .Slice x.1 x.2.1 none x.2.2 := by
  cases e with
  | Slice lo hi st p => cases st with
    | none => obtain rfl := sj h; rfl
    | some => exact nn h
  | _ => exact nn h
noncomputable def nmPos : Expr → Pos
  | .Name _ p => p
  | _ => ⟨0, 0, 0, 0⟩
theorem nameOf1_at {e : Expr} {x : Str} (h : nameOf1 e = some x) : e = .Name x (nmPos e) := by
  obtain ⟨p, rfl⟩ := nameOf1_is h; rfl
noncomputable def vCall : Expr → Option (Expr × List Expr × Pos)
  | .Call g args kw p => gate kw.isEmpty (some (g, args, p)) none
  | _ => none
theorem vCall_is {e : Expr} {x : Expr × List Expr × Pos} (h : vCall e = some x) : e = .Call x.1 x.2.1 [] x.2.2 := by
  cases e with
  | Call g args kw p =>
    obtain ⟨hk, h⟩ := gate_of h
    obtain rfl := sj h
    exact congrArg (Expr.Call g args · p) (List.isEmpty_iff.mp hk)
  | _ => exact nn h
noncomputable def vStr : Expr → Option (Str × Nat × Pos)
  | .Constant c k p => match c with
    | .str s => some (s, k, p)
    | _ => none
  | _ => none
theorem vStr_is {e : Expr} {x : Str × Nat × Pos} (h : vStr e = some x) : e = .Constant (.str x.1) x.2.1 x.2.2 := by
  cases e with
  | Constant c k p => cases c <;> first | exact nn h | (obtain rfl := sj h; rfl)
  | _ => exact nn h
noncomputable def vExpr : Stmt → Option (Expr × Pos)
  | .Expr e p => some (e, p)
  | _ => none
theorem vExpr_is {st : Stmt} {x : Expr × Pos} (h : vExpr st = some x) : st = .Expr x.1 x.2 := by
  cases st <;> first | exact nn h | (obtain rfl := sj h; rfl)
section
variable {β : Type} (br : Bool → β → β → β) (I : Orc) (ρ : Loc) (f : β) (ev : Expr → (V → β) → β)
noncomputable def evsF : List Expr → (List V → β) → β
  | [], k => k []
  | e :: r, k => ev e fun v => evsF r fun vs => k (v :: vs)
noncomputable def evoF : Option Expr → (Option V → β) → β
  | none, k => k none
  | some e, k => ev e fun v => k (some v)
noncomputable def cmp1F (op : CmpOp) (l r : Expr) (k : V → β) : β := opt (vTuple r)
  (fun q => gate (op.ctorIdx == 8 && q.1.all notStar) (ev l fun a => evsF ev q.1 fun vs => gate (Nat.ble vs.length 1000) (opt (inTup a vs) k f) f) f)
  (gate (behindInMarks op r) f (ev l fun a => ev r fun b => opt (cmpV op a b) k f))
noncomputable def cmp2F (op op' : CmpOp) (l m r : Expr) (k : V → β) : β := gate (behindInMarks op' r) f (ev l fun a => ev m fun b => opt (cmpV op a b) (fun c => truthK br f c fun t =>
  br t (ev r fun d => opt (cmpV op' b d) k f) (k (fixV c false))) f)
noncomputable def boolF (op : BoolOp) (es : List Expr) (p : Pos) (k : V → β) : β := match es with
  | [] => f
  | e :: r => match r with
    | [] => ev e k
    | e' :: rest => ev e fun v => truthK br f v fun t => match op with
      | .And => br t (ev (.BoolOp .And (e' :: rest) p) k) (k (fixV v false))
      | .Or => br t (k (fixV v true)) (ev (.BoolOp .Or (e' :: rest) p) k)
noncomputable def subF (v i : Expr) (k : V → β) : β := opt (vSlice i)
  (fun q => ev v fun x => evoF ev q.1 fun l => evoF ev q.2.1 fun h => sliceK br f x l h k)
  (gate (notSlice i) (ev v fun x => ev i fun j => itemK br f x j k) f)
noncomputable def callF (g : Expr) (args : List Expr) (p : Pos) (k : V → β) : β := opt (vAttr g)
  (fun q => gate (args.all notStar && !args.isEmpty && methBase q.1 && Nat.ble args.length 4 && q.2.2.endLine == p.line) (ev q.1 fun x => evsF ev args fun vs => opt (methV (methId q.2.1) x vs) k f) f)
  (opt (nameOf1 g) (fun g => gate (args.all notStar && !args.isEmpty) (evsF ev args fun vs => opt (I.callF g vs) (fun gv => br gv.1 (k gv.2) f) f) f) f)
noncomputable def evalF (e : Expr) (k : V → β) : β := match e with
  | .Name x _ => gate (I.names.contains x && x != "__debug__") (opt (ρ.lookup x) k f) f
  | .Constant c _ _ => opt (constV c) k f
  | .Attribute v a _ => opt (nameOf1 v) (fun y => gate (y == I.self) (opt (I.attr a) k f) f) f
  | .Compare l ops rs _ => opt (one ops) (fun op => opt (one rs) (fun r => cmp1F f ev op l r k) f) (opt (two ops) (fun q => opt (two rs) (fun u => cmp2F br f ev q.1 q.2 l u.1 u.2 k) f) f)
  | .BoolOp op es p => boolF br f ev op es p k
  | .UnaryOp op x _ => match op with
    | .Not => ev x fun v => truthK br f v fun t => k (.bool (!t))
    | .USub => ev x fun v => intK f v fun i => k (.int (-i))
    | _ => f
  | .BinOp l op r _ => ev l fun a => ev r fun b => binK br f op a b k
  | .IfExp t b o _ => ev t fun v => truthK br f v fun c => br c (ev b k) (ev o k)
  | .Subscript v i _ => subF br f ev v i k
  | .Call g args kw p => gate kw.isEmpty (callF br I f ev g args p k) f
  | .Tuple es _ _ => gate (es.all notStar) (evsF ev es fun vs => gate (Nat.ble vs.length 1000) (k (.tuple vs)) f) f
  | .List es _ => gate (es.all notStar) (evsF ev es fun vs => gate (Nat.ble vs.length 1000) (k (.list vs)) f) f
  | _ => f
noncomputable def evalK : Nat → Expr → (V → β) → β
  | 0 => fun _ _ => f
  | n + 1 => evalF br I ρ f (evalK n)
end
section
variable {prog : Program} {w : World} {A : Around} {O : Type} {C : Cx O} {o : O} {env : Env} {I : Orc}
def BothOk (prog : Program) (w : World) (A : Around) (C : Cx O) (o : O) (env : Env) (ρ : Loc) (e : Expr) (v : V) : Prop :=
  EvOk prog w A C o env ρ e v ∧ ∀ t, truthV v = some t → TrOk prog w A C o env ρ e t
def Snd (prog : Program) (w : World) (A : Around) (C : Cx O) (o : O) (env : Env) (ρ : Loc) {γ : Type} (r : γ) (ev : Expr → (V → Option γ) → Option γ) : Prop := ∀ e k, ev e k = some r → ∃ v, BothOk prog w A C o env ρ e v ∧ k v = some r
theorem both_plain {ρ : Loc} {e : Expr} {v : V} (h : EvOk prog w A C o env ρ e v) (hp : plainTest e = true) : BothOk prog w A C o env ρ e v := ⟨h, fun _ ht => tr_plain h ht hp⟩
section
variable {ρ : Loc} {γ : Type} {r : γ} {ev : Expr → (V → Option γ) → Option γ}
theorem evs_snd (hs : Snd prog w A C o env ρ r ev) : ∀ (es : List Expr) (k : List V → Option γ), evsF ev es k = some r → es.all notStar = true → ∃ vs, EvsOk prog w A C o env ρ es vs ∧ k vs = some r
  | [], k, h, _ => ⟨[], evs_nil, h⟩
  | e :: es, k, h, ha => by
    rw [List.all_cons, Bool.and_eq_true] at ha
    obtain ⟨v, hv, h⟩ := hs e _ h
    obtain ⟨vs, hvs, h⟩ := evs_snd hs es _ h ha.2
    exact ⟨v :: vs, evs_cons ha.1 hv.1 hvs, h⟩
theorem evo_snd (hs : Snd prog w A C o env ρ r ev) {e : Option Expr} {k : Option V → Option γ} (h : evoF ev e k = some r) : ∃ v, EvoOk prog w A C o env ρ e v ∧ k v = some r := by
  cases e with
  | none => exact ⟨none, evo_none, h⟩
  | some e =>
    obtain ⟨v, hv, h⟩ := hs e _ h
    exact ⟨some v, evo_some hv.1, h⟩
theorem cmp1_snd (hs : Snd prog w A C o env ρ r ev) {op : CmpOp} {l r' : Expr} {p : Pos} {k : V → Option γ} (h : cmp1F none ev op l r' k = some r) : ∃ v, BothOk prog w A C o env ρ (.Compare l [op] [r'] p) v ∧ k v = some r := by
  rcases opt_or h with ⟨⟨es, n, p'⟩, h1, h⟩ | ⟨_, h⟩
  · obtain rfl := vTuple_is h1
    obtain ⟨h2, h⟩ := gate_of h
    rw [Bool.and_eq_true] at h2
    obtain ⟨a, ha, h⟩ := hs _ _ h
    obtain ⟨ds, hd, h⟩ := evs_snd hs _ _ h h2.2
    obtain ⟨hz, h⟩ := gate_of h
    obtain ⟨v, hv, hk⟩ := opt_of h
    have hz := Nat.le_of_ble_eq_true hz
    have ho : op = .In := by have := h2.1; cases op <;> first | rfl | exact cX this rfl rfl
    subst ho
    exact ⟨v, ⟨ev_intup ha.1 hd hz hv, fun t ht => tr_intup ha.1 hd hz hv ht⟩, hk⟩
  · obtain ⟨hm, h⟩ := gate_off h
    obtain ⟨a, ha, h⟩ := hs _ _ h
    obtain ⟨b, hb, h⟩ := hs _ _ h
    obtain ⟨v, hv, h⟩ := opt_of h
    exact ⟨v, ⟨ev_cmp ha.1 hb.1 hm hv, fun t ht => tr_cmp ha.1 hb.1 hm hv ht⟩, h⟩
theorem cmp2_snd (hs : Snd prog w A C o env ρ r ev) {op op' : CmpOp} {l m r' : Expr} {p : Pos} {k : V → Option γ} (h : cmp2F brO none ev op op' l m r' k = some r) : ∃ v, BothOk prog w A C o env ρ (.Compare l [op, op'] [m, r'] p) v ∧ k v = some r := by
  obtain ⟨hm, h⟩ := gate_off h
  obtain ⟨a, ha, h⟩ := hs _ _ h
  obtain ⟨b, hb, h⟩ := hs _ _ h
  obtain ⟨c, hc, h⟩ := opt_of h
  obtain ⟨t, ht, h⟩ := truthK_of h
  cases t with
  | true =>
    obtain ⟨d, hd, h⟩ := hs r' _ h
    obtain ⟨v, hv, h⟩ := opt_of h
    exact ⟨v, ⟨ev_chain ha.1 hb.1 hm hc ht ⟨d, hd.1, hv⟩, fun t ht' => tr_chain ha.1 hb.1 hm hc ht ⟨d, v, hd.1, hv, ht'⟩⟩, h⟩
  | false => exact ⟨c, ⟨ev_chain ha.1 hb.1 hm hc ht rfl, fun t ht' => tr_chain ha.1 hb.1 hm hc ht (sj (ht'.symm.trans ht))⟩, (congrArg k (fixV_is ht)).symm.trans h⟩
theorem bool_snd (hs : Snd prog w A C o env ρ r ev) {op : BoolOp} {es : List Expr} {p : Pos} {k : V → Option γ} (h : boolF brO none ev op es p k = some r) : ∃ v, BothOk prog w A C o env ρ (.BoolOp op es p) v ∧ k v = some r := by
  cases es with
  | nil => exact nn h
  | cons e rest => cases rest with
    | nil =>
      obtain ⟨v, hv, h⟩ := hs _ _ h
      exact ⟨v, ⟨hv.1, fun t ht => tr_one (hv.2 t ht)⟩, h⟩
    | cons e' rest =>
      obtain ⟨a, ha, h⟩ := hs e _ h
      obtain ⟨t, ht, h⟩ := truthK_of h
      cases op with
      | And => cases t with
        | true =>
          obtain ⟨v, hv, h⟩ := hs _ _ h
          exact ⟨v, ⟨ev_and ha.1 ht hv.1, fun z hz => tr_and (ha.2 _ ht) (hv.2 z hz)⟩, h⟩
        | false => exact ⟨a, ⟨ev_and ha.1 ht rfl, fun z hz => tr_and (ha.2 _ ht) (sj (hz.symm.trans ht))⟩, (congrArg k (fixV_is ht)).symm.trans h⟩
      | Or => cases t with
        | false =>
          obtain ⟨v, hv, h⟩ := hs _ _ h
          exact ⟨v, ⟨ev_or ha.1 ht hv.1, fun z hz => tr_or (ha.2 _ ht) (hv.2 z hz)⟩, h⟩
        | true => exact ⟨a, ⟨ev_or ha.1 ht rfl, fun z hz => tr_or (ha.2 _ ht) (sj (hz.symm.trans ht))⟩, (congrArg k (fixV_is ht)).symm.trans h⟩
theorem sub_snd (hs : Snd prog w A C o env ρ r ev) {v i : Expr} {p : Pos} {k : V → Option γ} (h : subF brO none ev v i k = some r) : ∃ x, BothOk prog w A C o env ρ (.Subscript v i p) x ∧ k x = some r := by
  rcases opt_or h with ⟨⟨lo, hi, p'⟩, h1, h⟩ | ⟨_, h⟩
  · obtain rfl := vSlice_is h1
    obtain ⟨a, ha, h⟩ := hs _ _ h
    obtain ⟨l, hl, h⟩ := evo_snd hs h
    obtain ⟨u, hu, h⟩ := evo_snd hs h
    obtain ⟨y, h3, h⟩ := strK_of h
    obtain ⟨l', e1, h⟩ : ∃ l', l = optInt l' ∧ (endK none u fun h => gate (l'.isSome || h.isSome) (brO (strOk y) (k (.str (Txt.slice y l' h))) none) none) = some r := by
      rcases endK_of h with ⟨e, h⟩ | ⟨i, e, h⟩
      · exact ⟨none, e, h⟩
      · exact ⟨some i, e, h⟩
    obtain ⟨u', e2, h⟩ : ∃ u', u = optInt u' ∧ gate (l'.isSome || u'.isSome) (brO (strOk y) (k (.str (Txt.slice y l' u'))) none) none = some r := by
      rcases endK_of h with ⟨e, h⟩ | ⟨i, e, h⟩
      · exact ⟨none, e, h⟩
      · exact ⟨some i, e, h⟩
    obtain ⟨h4, h⟩ := gate_of h
    obtain ⟨h5, hk⟩ := brO_of h
    subst h3 e1 e2
    exact ⟨_, both_plain (ev_slice ha.1 hl hu h5 h4) rfl, hk⟩
  · obtain ⟨h2, h⟩ := gate_of h
    obtain ⟨a, ha, h⟩ := hs _ _ h
    obtain ⟨j, hj, h⟩ := hs _ _ h
    obtain ⟨y, e1, h⟩ := strK_of h
    obtain ⟨i', e2, h⟩ := intK_of h
    obtain ⟨h3, hk⟩ := brO_of h
    subst e1 e2
    exact ⟨_, both_plain (ev_item ha.1 hj.1 h2 h3) rfl, hk⟩
theorem callF_snd (K : OrcOk prog w A C o env I) (hs : Snd prog w A C o env ρ r ev) {g : Expr} {args : List Expr} {p : Pos} {k : V → Option γ} (h : callF brO I none ev g args p k = some r) : ∃ x, BothOk prog w A C o env ρ (.Call g args [] p) x ∧ k x = some r := by
  have ne : ∀ {args : List Expr}, (!args.isEmpty) = true → args ≠ [] := fun h e => by subst e; exact Bool.false_ne_true h
  rcases opt_or h with ⟨⟨v, m, p'⟩, h1, h⟩ | ⟨_, h⟩
  · obtain rfl := vAttr_is h1
    obtain ⟨h2, h⟩ := gate_of h
    simp only [Bool.and_eq_true] at h2
    obtain ⟨⟨⟨⟨c1, c2⟩, c3⟩, c4⟩, c5⟩ := h2
    obtain ⟨a, ha, h⟩ := hs _ _ h
    obtain ⟨ds, hd, h⟩ := evs_snd hs _ _ h c1
    obtain ⟨v, hv, h⟩ := opt_of h
    exact ⟨v, both_plain (ev_meth ha.1 hd c1 (ne c2) c3 (Nat.le_of_ble_eq_true c4) c5 hv) rfl, h⟩
  · obtain ⟨g', h1, h⟩ := opt_of h
    obtain ⟨q, rfl⟩ := nameOf1_is h1
    obtain ⟨h2, h⟩ := gate_of h
    rw [Bool.and_eq_true] at h2
    obtain ⟨ds, hd, h⟩ := evs_snd hs _ _ h h2.1
    obtain ⟨⟨gd, v⟩, hv, h⟩ := opt_of h
    obtain ⟨e, hk⟩ := brO_of (c := gd) h
    subst e
    exact ⟨v, both_plain (ev_call K hd h2.1 (ne h2.2) hv) rfl, hk⟩
theorem evalF_snd (K : OrcOk prog w A C o env I) (hs : Snd prog w A C o env ρ r ev) : Snd prog w A C o env ρ r (evalF brO I ρ none ev) := by
  intro e k h
  cases e with
  | Name x p =>
    obtain ⟨hx, h⟩ := gate_of h
    obtain ⟨v, hv, h⟩ := opt_of h
    rw [Bool.and_eq_true] at hx
    exact ⟨v, both_plain (ev_name K hx.1 hx.2 hv) rfl, h⟩
  | Constant c n p =>
    obtain ⟨v, hv, h⟩ := opt_of h
    exact ⟨v, both_plain (ev_const hv) rfl, h⟩
  | Attribute y a p =>
    obtain ⟨y', h1, h⟩ := opt_of h
    obtain ⟨q, rfl⟩ := nameOf1_is h1
    obtain ⟨hy, h⟩ := gate_of h
    obtain ⟨v, hv, hk⟩ := opt_of h
    obtain rfl := eq_of_beq hy
    exact ⟨v, both_plain (K.attr a v hv ρ q p) rfl, hk⟩
  | Compare l ops rs p =>
    rcases opt_or h with ⟨op, h1, k1⟩ | ⟨_, k1⟩
    · obtain ⟨r', h2, k2⟩ := opt_of k1
      obtain rfl := one_is h1
      obtain rfl := one_is h2
      exact cmp1_snd hs k2
    · obtain ⟨⟨op, op'⟩, h1, k2⟩ := opt_of k1
      obtain ⟨⟨m, r'⟩, h2, k3⟩ := opt_of k2
      obtain rfl := two_is h1
      obtain rfl := two_is h2
      exact cmp2_snd hs k3
  | BoolOp op es p => exact bool_snd hs h
  | UnaryOp op x p => cases op with
    | Not =>
      obtain ⟨a, ha, h⟩ := hs x _ h
      obtain ⟨t, ht, h⟩ := truthK_of h
      exact ⟨_, ⟨ev_not ha.1 ht, fun z hz => by obtain rfl := sj hz; exact tr_not (ha.2 _ ht)⟩, h⟩
    | USub =>
      obtain ⟨a, ha, h⟩ := hs x _ h
      obtain ⟨i, rfl, h⟩ := intK_of (d := a) h
      exact ⟨_, both_plain (ev_neg ha.1) rfl, h⟩
    | _ => exact nn h
  | BinOp l op r' p =>
    obtain ⟨a, ha, h⟩ := hs l _ h
    obtain ⟨b, hb, h⟩ := hs r' _ h
    obtain ⟨v, hv, h⟩ := binK_of h
    exact ⟨v, both_plain (ev_binO ha.1 hb.1 hv) rfl, h⟩
  | IfExp c b e p =>
    obtain ⟨a, ha, h⟩ := hs c _ h
    obtain ⟨t, ht, h⟩ := truthK_of h
    cases t with
    | true =>
      obtain ⟨v, hv, h⟩ := hs b _ h
      exact ⟨v, ⟨ev_if (ha.2 _ ht) hv.1, fun z hz => tr_if (ha.2 _ ht) (hv.2 z hz)⟩, h⟩
    | false =>
      obtain ⟨v, hv, h⟩ := hs e _ h
      exact ⟨v, ⟨ev_if (ha.2 _ ht) hv.1, fun z hz => tr_if (ha.2 _ ht) (hv.2 z hz)⟩, h⟩
  | Subscript v i p => exact sub_snd hs h
  | Call g args kw p =>
    obtain ⟨hk, h⟩ := gate_of h
    cases kw with
    | nil => exact callF_snd K hs h
    | cons => exact absurd hk Bool.false_ne_true
  | Tuple es n p =>
    obtain ⟨h1, h⟩ := gate_of h
    obtain ⟨ds, hd, h⟩ := evs_snd hs _ _ h h1
    obtain ⟨hz, h⟩ := gate_of h
    exact ⟨_, ⟨ev_tuple hd (Nat.le_of_ble_eq_true hz), fun t ht => nn ht⟩, h⟩
  | List es p =>
    obtain ⟨h1, h⟩ := gate_of h
    obtain ⟨ds, hd, h⟩ := evs_snd hs _ _ h h1
    obtain ⟨hz, h⟩ := gate_of h
    exact ⟨_, ⟨ev_list hd (Nat.le_of_ble_eq_true hz), fun t ht => nn ht⟩, h⟩
  | _ => exact nn h
theorem evalK_ok (K : OrcOk prog w A C o env I) (ρ : Loc) {γ : Type} {r : γ} : ∀ n, Snd prog w A C o env ρ r (evalK brO I ρ none n)
  | 0 => fun _ _ h => nn h
  | n + 1 => evalF_snd K (evalK_ok K ρ n)
end
end
section
set_option tactic.hygienic true
inductive Fl where
  | next | brk | cont | ret (v : V) | exc (k : Nat)
structure Ifc (O : Type) where
  names : List Str
  self : Str
  attr : O → Str → Option V
  setA : O → Str → V → Option O
  callF : O → Str → List V → Option (Bool × V)
  prim : O → Loc → Stmt → Option (O × Loc × Fl)
  push : O → Str → V → Option (Bool × O) := fun _ _ _ => none
  give : O → Str → Option (O × V) := fun _ _ => none
  primB : O → Loc → Stmt → Option (Bool × O × Loc × Fl) := fun _ _ _ => none
noncomputable def Ifc.orc {O : Type} (I : Ifc O) (o : O) : Orc := ⟨I.names, I.self, I.attr o, I.callF o⟩
noncomputable def namesOf : List Expr → Option (List Str)
  | [] => some []
  | e :: r => opt (nameOf1 e) (fun x => opt (namesOf r) (fun xs => some (x :: xs)) none) none
noncomputable def swapR (ts : List Expr) (k : Nat) (p : Pos) (value : Expr) (env : Env) : Option (Option (List Str)) :=
  match swappedStores [.Tuple ts k p] value env with
  | .pure r => some r
  | _ => Option.none
theorem swapR_is {ts : List Expr} {k : Nat} {p : Pos} {value : Expr} {env : Env} {r : Option (List Str)} (h : swapR ts k p value env = some r) : swappedStores [.Tuple ts k p] value env = pure r := by
  unfold swapR at h
  split at h
  case h_1 q hq => cases h; exact hq
  case h_2 => cases h
noncomputable def bindAll : List Str → List V → Loc → Loc
  | x :: xs, v :: vs, ρ => bindAll xs vs ((x, v) :: ρ)
  | _, _, ρ => ρ
noncomputable def swapOk (r : Option (List Str)) (xs : List Str) : Bool := match r with
  | some ys => ys == xs
  | Option.none => true
noncomputable def swapRho (r : Option (List Str)) (xs : List Str) (vs : List V) (ρ : Loc) : Loc := match r with
  | some _ => bindAll xs.reverse vs.reverse ρ
  | Option.none => bindAll xs vs ρ
noncomputable def tupOf : V → Option (List V)
  | .tuple vs => some vs
  | _ => none
theorem tupOf_is {d : V} {x : List V} (h : tupOf d = some x) : d = .tuple x := by cases d <;> first | exact nn h | exact congrArg _ (sj h)
section
variable {O β : Type} (br : Bool → β → β → β) (I : Ifc O) (env : Env) (f : β) (ev : O → Loc → Expr → (V → β) → β) (bl : O → Loc → List Stmt → (O → Loc → Fl → β) → β)
noncomputable def asgF (o : O) (ρ : Loc) (t e : Expr) (k : O → Loc → Fl → β) : β := opt (nameOf1 t)
  (fun x => gate (I.names.contains x && notComp e) (ev o ρ e fun v => k o ((x, v) :: ρ) .next) f)
  (opt (vTuple t) (fun q => opt (namesOf q.1) (fun xs => opt (swapR q.1 q.2.1 q.2.2 e env) (fun r => gate (xs.all I.names.contains && notComp e && swapOk r xs) (ev o ρ e fun v => opt (tupOf v) (fun vs => gate (xs.length == vs.length) (k o (swapRho r xs vs ρ) .next) f) f) f) f) f)
    (opt (vAttr t) (fun q => opt (nameOf1 q.1) (fun y => gate (y == I.self && notComp e) (ev o ρ e fun v => opt (I.setA o q.2.1 v) (fun o' => k o' ρ .next) f) f) f) f))
noncomputable def augF (o : O) (ρ : Loc) (t : Expr) (op : Operator) (e : Expr) (k : O → Loc → Fl → β) : β := opt (vAttr t)
  (fun q => opt (nameOf1 q.1) (fun y => gate (y == I.self) (opt (I.attr o q.2.1) (fun u => ev o ρ e fun v => inpK br f op u v fun r => opt (I.setA o q.2.1 r) (fun o' => k o' ρ .next) f) f) f) f) f
noncomputable def giveV (o : O) (e : Expr) : Option (Expr × O × V) := opt (vTuple e) (fun q => opt (two q.1) (fun u => opt (nameOf1 u.1) (fun x => opt (I.give o x) (fun r => some (u.2, r)) none) none) none) none
noncomputable def retF (o : O) (ρ : Loc) (e : Expr) (k : O → Loc → Fl → β) : β := opt (giveV I o e)
  (fun g => gate (notStar g.1) (ev o ρ g.1 fun v => k g.2.1 ρ (.ret (.tuple [g.2.2, v]))) f)
  (ev o ρ e fun v => k o ρ (.ret v))
noncomputable def vPush (e : Expr) : Option (Str × Pos × Expr × Pos × Pos) := opt (vCall e) (fun c => opt (vAttr c.1) (fun q => opt (nameOf1 q.1) (fun x => opt (one c.2.1) (fun e => gate (q.2.1 == "append") (some (x, nmPos q.1, e, q.2.2, c.2.2)) none) none) none) none) none
noncomputable def pushF (o : O) (ρ : Loc) (e : Expr) (k : O → Loc → Fl → β) : β := opt (vPush e)
  (fun q => gate (notStar q.2.2.1 && q.2.2.2.1.endLine == q.2.2.2.2.line) (ev o ρ q.2.2.1 fun v => opt (I.push o q.1 v) (fun go => br go.1 (k go.2 ρ .next) f) f) f) f
noncomputable def stF (o : O) (ρ : Loc) (st : Stmt) (k : O → Loc → Fl → β) : β := match st with
  | .Assign ts e _ => opt (one ts) (fun t => asgF I env f ev o ρ t e k) f
  | .AugAssign t op e _ => augF br I f ev o ρ t op e k
  | .If t b e _ => ev o ρ t fun v => truthK br f v fun c => br c (bl o ρ b k) (bl o ρ e k)
  | .Pass _ => k o ρ .next
  | .Break _ => k o ρ .brk
  | .Continue _ => k o ρ .cont
  | .Return e _ => opt e (fun e => retF I f ev o ρ e k) f
  | .Expr e _ => pushF br I f ev o ρ e k
  | _ => f
noncomputable def execF (o : O) (ρ : Loc) (st : Stmt) (k : O → Loc → Fl → β) : β := opt (I.prim o ρ st) (fun r => k r.1 r.2.1 r.2.2)
  (opt (I.primB o ρ st) (fun gr => br gr.1 (k gr.2.1 gr.2.2.1 gr.2.2.2) f) (stF br I env f ev bl o ρ st k))
noncomputable def seqF (st : O → Loc → Stmt → (O → Loc → Fl → β) → β) (o : O) (ρ : Loc) (b : List Stmt) (k : O → Loc → Fl → β) : β := match b with
  | [] => k o ρ .next
  | s :: r => st o ρ s fun o' ρ' fl => match fl with
    | .next => bl o' ρ' r k
    | fl => k o' ρ' fl
noncomputable def execBK : Nat → O → Loc → List Stmt → (O → Loc → Fl → β) → β
  | 0 => fun _ _ _ _ => f
  | n + 1 => seqF (execBK n) (execF br I env f (fun o ρ => evalK br (I.orc o) ρ f n) (execBK n))
noncomputable def execSK (n : Nat) : O → Loc → Stmt → (O → Loc → Fl → β) → β := execF br I env f (fun o ρ => evalK br (I.orc o) ρ f n) (execBK br I env f n)
end
section
variable {prog : Program} {w : World} {A : Around} {O : Type} {C : Cx O} {env : Env} {I : Ifc O} {X : Nat → Led → Shared → (Value → Shared → Prop) → Prop} {sa : Addr}
def FlQ (X : Nat → Led → Shared → (Value → Shared → Prop) → Prop) (fl : Fl) (fz : Led) (Q : Flow → Shared → Prop) (E : Value → Shared → Prop) (s : Shared) : Prop :=
  match fl with
  | .next => Q .next s
  | .brk => Q .brk s
  | .cont => Q .cont s
  | .ret d => ∀ v, VR fz d v → Q (.ret v) s
  | .exc k => X k fz s E
def StOk (prog : Program) (w : World) (A : Around) (C : Cx O) (env : Env) (X : Nat → Led → Shared → (Value → Shared → Prop) → Prop) (o : O) (ρ : Loc) (st : Stmt) (r : O × Loc × Fl) : Prop :=
  ∀ (fz : Led) (s : Shared) (Q : Flow → Shared → Prop) (E : Value → Shared → Prop), At C o ρ fz s → (∀ fz' s', Sub fz fz' → At C r.1 r.2.1 fz' s' → FlQ X r.2.2 fz' Q E s') → wpAny (model prog w) A (exec st env) Q E s
def BlOk (prog : Program) (w : World) (A : Around) (C : Cx O) (env : Env) (X : Nat → Led → Shared → (Value → Shared → Prop) → Prop) (o : O) (ρ : Loc) (b : List Stmt) (r : O × Loc × Fl) : Prop :=
  ∀ (fz : Led) (s : Shared) (Q : Flow → Shared → Prop) (E : Value → Shared → Prop), At C o ρ fz s → (∀ fz' s', Sub fz fz' → At C r.1 r.2.1 fz' s' → FlQ X r.2.2 fz' Q E s') → wpAny (model prog w) A (execs b env) Q E s
structure IfcOk (prog : Program) (w : World) (A : Around) (C : Cx O) (env : Env) (I : Ifc O) (X : Nat → Led → Shared → (Value → Shared → Prop) → Prop) (selfA : Addr) : Prop where
  orc : ∀ o, OrcOk prog w A C o env (I.orc o)
  hh : A.handled = none
  inter : interactive env = false
  off : ∀ p ∈ C.refs, I.names.contains p.1 = false
  self : (I.self, Value.ref selfA) ∈ C.refs ∨ (∀ o a, I.attr o a = none) ∧ (∀ o a v, I.setA o a v = none)
  selfK : env.kindOf I.self = some .local ∧ (I.self == ("__debug__" : Str)) = false ∨ (∀ o a, I.attr o a = none) ∧ (∀ o a v, I.setA o a v = none)
  get : ∀ o a d, I.attr o a = some d → ∀ ρ fz (s : Shared) (Q E : Value → Shared → Prop), At C o ρ fz s → (∀ fz' s' v, Sub fz fz' → At C o ρ fz' s' → VR fz' d v → Q v s') → wpAny (model prog w) A (getAttr (.ref selfA) a true) Q E s
  set : ∀ o a d o', I.setA o a d = some o' → ∀ ρ fz (s : Shared) v (Q : Unit → Shared → Prop) (E : Value → Shared → Prop), At C o ρ fz s → VR fz d v → (∀ s', At C o' ρ fz s' → Q () s') → wpAny (model prog w) A (setAttr (.ref selfA) a v) Q E s
  prim : ∀ o ρ st r, I.prim o ρ st = some r → StOk prog w A C env X o ρ st r
  push : ∀ o x d o', I.push o x d = some (true, o') → ∃ a, (x, Value.ref a) ∈ C.refs ∧ env.kindOf x = some .local ∧ (x == ("__debug__" : Str)) = false ∧ (∀ ρ fz s, At C o ρ fz s → ∃ items, PlainL s.heap a items) ∧
    ∀ ρ fz (s : Shared) v (Q E : Value → Shared → Prop), At C o ρ fz s → VR fz d v → (∀ s', At C o' ρ fz s' → Q .none s') → wpAny (model prog w) A (call (.builtin "list.append") [.ref a, v]) Q E s
  give : ∀ o x o' d, I.give o x = some (o', d) → ∃ a, (x, Value.ref a) ∈ C.refs ∧ env.kindOf x = some .local ∧ (x == ("__debug__" : Str)) = false ∧
    ∀ ρ fz (s : Shared), At C o ρ fz s → ∃ fz', Sub fz fz' ∧ At C o' ρ fz' s ∧ VR fz' d (.ref a)
  primB : ∀ o ρ st r, I.primB o ρ st = some (true, r) → StOk prog w A C env X o ρ st r := by intro o ρ st r h; cases h
theorem LocsAre.set {m : Str → Option Value} {ρ : Loc} {fz : Led} (lc : LocsAre m ρ fz) {x : Str} {d : V} {v : Value} (hv : VR fz d v) : LocsAre (fun y => if y = x then some v else m y) ((x, d) :: ρ) fz := by
  intro y u hy
  rw [List.lookup_cons] at hy
  by_cases e : y = x
  · rw [beq_iff_eq.mpr e] at hy
    rw [← sj hy]
    exact ⟨v, if_pos e, hv⟩
  · rw [beq_false_of_ne e] at hy
    obtain ⟨v', h1, h2⟩ := lc y u hy
    exact ⟨v', (if_neg e).trans h1, h2⟩
theorem RefsAre.set {m : Str → Option Value} {l : List (Str × Value)} (rf : RefsAre m l) {x : Str} {v : Value} {ns : List Str} (off : ∀ p ∈ l, ns.contains p.1 = false) (hx : ns.contains x = true) : RefsAre (fun y => if y = x then some v else m y) l := fun p hp =>
  (if_neg fun (e : p.1 = x) => Bool.false_ne_true ((off p hp).symm.trans ((congrArg ns.contains e).trans hx))).trans (rf p hp)
theorem store_ok (K : IfcOk prog w A C env I X sa) {o : O} {ρ : Loc} {fz : Led} {s : Shared} {x : Str} {d : V} {v : Value} {Q : Unit → Shared → Prop} {E : Value → Shared → Prop} (h : At C o ρ fz s) (hx : I.names.contains x = true) (hv : VR fz d v)
    (hq : ∀ s', At C o ((x, d) :: ρ) fz s' → Q () s') : wpAny (model prog w) A (storeName env x v) Q E s := by
  obtain ⟨h', tk, m, R, rfl, F, N, rp, ap, lc, rf⟩ := h
  have hf := (K.orc o).fn
  have hL := (K.orc o).loc
  refine wpAny_storeName_local ((K.orc o).names x (List.contains_iff_mem.mp hx)) (by rw [hL]; exact F.ns) (fun h2 hn hs => hq _ ?_) (by rw [hf]; rfl)
  rw [hL] at hn hs
  exact ⟨h2, tk + 1, _, R, rfl, F.set hn hs, N.set hs, rp, ap, lc.set hv, rf.set K.off hx⟩
theorem swap_off {e : Expr} {t : Option Expr} {n : Nat} (h : notComp e = true) : swapsWith e t n env = pure false := by
  cases e <;> first | rfl | exact cX h rfl rfl
theorem st_name (K : IfcOk prog w A C env I X sa) {o : O} {ρ : Loc} {x : Str} {p p' : Pos} {e : Expr} {v : V} (hx : I.names.contains x = true) (hc : notComp e = true) (he : EvOk prog w A C o env ρ e v) :
    StOk prog w A C env X o ρ (.Assign [.Name x p'] e p) (o, (x, v) :: ρ, .next) := by
  intro fz s Q E h hq
  refine wpAny_Assign_Name (he fz s _ E h fun fz₁ s₁ va s1 h1 x1 => store_ok K h1 hx x1 fun s₂ h2 => ?_) (swap_off hc)
  exact hq fz₁ s₂ s1 h2
theorem self_ok (K : IfcOk prog w A C env I X sa) {o : O} {ρ : Loc} {fz : Led} {s : Shared} {p : Pos} {Q E : Value → Shared → Prop} (h : At C o ρ fz s) (ha : (I.self, Value.ref sa) ∈ C.refs) (hk : env.kindOf I.self = some .local ∧ (I.self == ("__debug__" : Str)) = false) (hq : Q (.ref sa) s) :
    wpAny (model prog w) A (eval (.Name I.self p) env) Q E s := by
  obtain ⟨h', tk, m, R, rfl, F, N, rp, ap, lc, rf⟩ := h
  exact wpAny_Name (wpAny_loadName_local (K.orc o).fn hk.1 (by rw [(K.orc o).loc]; exact F.ns) (rf _ ha) hq) hk.2
theorem st_attr (K : IfcOk prog w A C env I X sa) {o o' : O} {ρ : Loc} {a : Str} {p p1 p2 : Pos} {e : Expr} {v : V} (hc : notComp e = true) (he : EvOk prog w A C o env ρ e v) (hs : I.setA o a v = some o') :
    StOk prog w A C env X o ρ (.Assign [.Attribute (.Name I.self p1) a p2] e p) (o', ρ, .next) := by
  intro fz s Q E h hq
  have ha : (I.self, Value.ref sa) ∈ C.refs := K.self.resolve_right fun q => by rw [q.2] at hs; cases hs
  have hk := K.selfK.resolve_right fun q => by rw [q.2] at hs; cases hs
  refine plainObj_wpAny_Assign_Attribute (he fz s _ E h fun fz₁ s₁ va s1 h1 x1 => self_ok K h1 ha hk ?_) (swap_off hc)
  exact K.set o a v o' hs ρ fz₁ s₁ va _ E h1 x1 fun s₂ h2 => hq fz₁ s₂ s1 h2
theorem st_aug (K : IfcOk prog w A C env I X sa) {o o' : O} {ρ : Loc} {a : Str} {op : Operator} {p p1 p2 : Pos} {e : Expr} {u v r : V} (hu : I.attr o a = some u) (he : EvOk prog w A C o env ρ e v) (hr : BinOk prog w inplaceOp op u v r) (hs : I.setA o a r = some o') :
    StOk prog w A C env X o ρ (.AugAssign (.Attribute (.Name I.self p1) a p2) op e p) (o', ρ, .next) := by
  intro fz s Q E h hq
  have ha : (I.self, Value.ref sa) ∈ C.refs := K.self.resolve_right fun q => by rw [q.2] at hs; cases hs
  have hk := K.selfK.resolve_right fun q => by rw [q.2] at hs; cases hs
  refine wpAny_AugAssign_AttributeAny (self_ok K h ha hk (K.get o a u hu ρ fz s _ E h fun fz₁ s₁ va s1 h1 x1 => he fz₁ s₁ _ E h1 fun fz₂ s₂ vb s2 h2 x2 => ?_))
  refine hr (x1.mono s2) x2 fun v' tk x => K.set o a r o' hs ρ fz₂ _ v' _ E (h2.toks tk) x fun s₃ h3 => hq fz₂ s₃ (fun p hp => s2 p (s1 p hp)) h3
theorem st_if {o : O} {ρ : Loc} {t : Expr} {b e : List Stmt} {p : Pos} {c : Bool} {r : O × Loc × Fl} (ht : TrOk prog w A C o env ρ t c) (hb : if c then BlOk prog w A C env X o ρ b r else BlOk prog w A C env X o ρ e r) :
    StOk prog w A C env X o ρ (.If t b e p) r := by
  intro fz s Q E h hq
  refine wpAny_If (ht fz s _ E h fun fz₁ s₁ s1 h1 => ?_)
  cases c with
  | true => simp only [if_true] at hb ⊢; exact hb fz₁ s₁ Q E h1 fun fz₂ s₂ s2 h2 => hq fz₂ s₂ (fun p hp => s2 p (s1 p hp)) h2
  | false => simp only [Bool.false_eq_true, if_false] at hb ⊢; exact hb fz₁ s₁ Q E h1 fun fz₂ s₂ s2 h2 => hq fz₂ s₂ (fun p hp => s2 p (s1 p hp)) h2
theorem st_ret {o : O} {ρ : Loc} {e : Expr} {p : Pos} {v : V} (he : EvOk prog w A C o env ρ e v) : StOk prog w A C env X o ρ (.Return (some e) p) (o, ρ, .ret v) := by
  intro fz s Q E h hq
  exact wpAny_Return_some (he fz s _ E h fun fz₁ s₁ va s1 h1 x1 => hq fz₁ s₁ s1 h1 va x1)
theorem st_push (K : IfcOk prog w A C env I X sa) {o o' : O} {ρ : Loc} {x : Str} {p1 p' p p2 : Pos} {e : Expr} {v : V} (hs : notStar e = true) (hl : (p'.endLine == p.line) = true) (he : EvOk prog w A C o env ρ e v) (ho : I.push o x v = some (true, o')) :
    StOk prog w A C env X o ρ (.Expr (.Call (.Attribute (.Name x p1) "append" p') [e] [] p) p2) (o', ρ, .next) := by
  obtain ⟨a, hr, hk, hd, hg, hc⟩ := K.push o x v o' ho
  intro fz s Q E h hq
  have hse : ([e] : List Expr).all notStar = true := by simp [hs]
  refine wpAny_Expr ?_ K.inter rfl
  refine MethodCall_ (pl := _) ?_ (meth_eq (v := .Name x p1) (by rfl) hse (by simp) hl)
  have hself : ∀ {Q' E' : Value → Shared → Prop}, Q' (.ref a) s → wpAny (model prog w) A (eval (.Name x p1) env) Q' E' s := fun hq' => by
    obtain ⟨h', tk, m, R, rfl, F, N, rp, ap, lc, rf⟩ := h
    exact wpAny_Name (wpAny_loadName_local (K.orc o).fn hk (by rw [(K.orc o).loc]; exact F.ns) (rf _ hr) hq') hd
  refine hself ?_
  obtain ⟨items, ob, n, hob, hcl, hdi, hda⟩ := hg ρ fz s h
  refine getMethod_list_append hob hcl hdi ?_
  refine callWith_more (first := [.ref a]) hse ((evs_cons hs he evs_nil) p fz s _ E h fun fz₁ s₁ vs s1 h1 x1 => ?_)
  cases x1 with
  | cons hv hr' =>
    cases hr'
    exact hc ρ fz₁ s₁ _ _ E h1 hv fun s₂ h2 => hq fz₁ s₂ s1 h2
theorem st_give (K : IfcOk prog w A C env I X sa) {o o' : O} {ρ : Loc} {x : Str} {p1 p3 p : Pos} {n : Nat} {e : Expr} {v d : V} (hs : notStar e = true) (he : EvOk prog w A C o env ρ e v) (ho : I.give o x = some (o', d)) :
    StOk prog w A C env X o ρ (.Return (some (.Tuple [.Name x p1, e] n p3)) p) (o', ρ, .ret (.tuple [d, v])) := by
  obtain ⟨a, hr, hk, hd, hg⟩ := K.give o x o' d ho
  intro fz s Q E h hq
  refine wpAny_Return_some (wpAny_Tuple ?_)
  refine args_cons ?_ (star_off rfl)
  have hself : ∀ {Q' E' : Value → Shared → Prop}, Q' (.ref a) s → wpAny (model prog w) A (eval (.Name x p1) env) Q' E' s := fun hq' => by
    obtain ⟨h', tk, m, R, rfl, F, N, rp, ap, lc, rf⟩ := h
    exact wpAny_Name (wpAny_loadName_local (K.orc o).fn hk (by rw [(K.orc o).loc]; exact F.ns) (rf _ hr) hq') hd
  refine hself ((evs_cons hs he evs_nil) p3 fz s _ E h fun fz₁ s₁ vs s1 h1 x1 => ⟨?_, ?_⟩)
  · rw [List.length_cons, x1.length, sizeLine_eq]; simp
  · obtain ⟨fz₂, s2, h2, hv⟩ := hg ρ fz₁ s₁ h1
    have h3 := h2.push { cls := .type "tuple", data := .seq (Value.ref a :: vs).toArray }
    refine hq _ _ (fun p hp => .tail _ (s2 p (s1 p hp))) h3 _ (.tuple (.head _) ?_)
    exact .cons (hv.mono fun p hp => .tail _ hp) (x1.mono fun p hp => .tail _ (s2 p hp))
theorem bl_nil {o : O} {ρ : Loc} : BlOk prog w A C env X o ρ [] (o, ρ, .next) := by
  intro fz s Q E h hq
  exact wpAny_execs_nil (hq fz s (fun _ h => h) h)
theorem bl_next {o o' : O} {ρ ρ' : Loc} {st : Stmt} {b : List Stmt} {r : O × Loc × Fl} (hs : StOk prog w A C env X o ρ st (o', ρ', .next)) (hb : BlOk prog w A C env X o' ρ' b r) : BlOk prog w A C env X o ρ (st :: b) r := by
  intro fz s Q E h hq
  exact wpAny_execs_cons (hs fz s _ E h fun fz₁ s₁ s1 h1 => hb fz₁ s₁ Q E h1 fun fz₂ s₂ s2 h2 => hq fz₂ s₂ (fun p hp => s2 p (s1 p hp)) h2)
theorem flq_out {fl : Fl} {fz : Led} {Q : Flow → Shared → Prop} {E : Value → Shared → Prop} {s : Shared} {T : Flow → Shared → Prop} (hT : ∀ f s, f ≠ .next → Q f s → T f s) (hn : fl ≠ .next) (h : FlQ X fl fz Q E s) : FlQ X fl fz T E s := by
  cases fl with
  | next => exact absurd rfl hn
  | brk => exact hT _ _ (fun e => by cases e) h
  | cont => exact hT _ _ (fun e => by cases e) h
  | ret d => exact fun v hv => hT _ _ (fun e => by cases e) (h v hv)
  | exc k => exact h
theorem bl_stop {o : O} {ρ : Loc} {st : Stmt} {b : List Stmt} {r : O × Loc × Fl} (hs : StOk prog w A C env X o ρ st r) (hr : ∀ o' ρ', r ≠ (o', ρ', .next)) : BlOk prog w A C env X o ρ (st :: b) r := by
  intro fz s Q E h hq
  refine wpAny_execs_cons (hs fz s _ E h fun fz₁ s₁ s1 h1 => flq_out (fun f s hf hQ => ?_) (fun e => hr r.1 r.2.1 (by rw [← e])) (hq fz₁ s₁ s1 h1))
  cases f <;> first | exact absurd rfl hf | exact hQ
theorem names_len : ∀ {ts : List Expr} {xs : List Str}, namesOf ts = some xs → ts.length = xs.length
  | [], _, h => by cases h; rfl
  | e :: r, xs, h => by
    obtain ⟨x, _, h⟩ := opt_of h
    obtain ⟨ys, hy, h⟩ := opt_of h
    rw [← sj h, List.length_cons, List.length_cons, names_len hy]
theorem each_len : ∀ {ts : List Expr}, (assignEach ts env).length = ts.length
  | [] => rfl
  | e :: r => by
    have : (assignEach (e :: r) env).length = (assignEach r env).length + 1 := by cases e <;> exact List.length_cons
    rw [this, each_len, List.length_cons]
theorem each_star : ∀ {ts : List Expr} {xs : List Str}, namesOf ts = some xs → (assignEach ts env).findIdx? (·.1) = none
  | [], _, _ => rfl
  | e :: r, xs, h => by
    obtain ⟨x, hx, h⟩ := opt_of h
    obtain ⟨ys, hy, h⟩ := opt_of h
    obtain ⟨q, rfl⟩ := nameOf1_is hx
    show ((false, _) :: assignEach r env).findIdx? (·.1) = none
    rw [List.findIdx?_cons, each_star hy]; rfl
theorem stores_ok (K : IfcOk prog w A C env I X sa) {o : O} {fz : Led} {Q : Unit → Shared → Prop} {E : Value → Shared → Prop} : ∀ {ts : List Expr} {xs : List Str} {vs : List Value} {ds : List V} {ρ : Loc} {s : Shared}, namesOf ts = some xs → xs.all I.names.contains = true → DatAll fz vs ds → xs.length = ds.length →
    At C o ρ fz s → (∀ s', At C o (bindAll xs ds ρ) fz s' → Q () s') → wpAny (model prog w) A (assignInOrder ((assignEach ts env).map (·.2)) vs) Q E s
  | [], xs, vs, ds, ρ, s, hn, ha, hd, hl, h, hq => by
    obtain rfl := sj hn
    cases hd with
    | nil => exact wpAny_pure (hq s h)
    | cons => cases hl
  | e :: r, xs, vs, ds, ρ, s, hn, ha, hd, hl, h, hq => by
    obtain ⟨x, hx, hn⟩ := opt_of hn
    obtain ⟨ys, hy, hn⟩ := opt_of hn
    have hn := sj hn
    subst hn
    obtain ⟨p, rfl⟩ := nameOf1_is hx
    cases hd with
    | nil => cases hl
    | @cons v vs d ds hv hr =>
      rw [List.all_cons, Bool.and_eq_true] at ha
      show wpAny (model prog w) A (do holding vs (assign (.Name x p) env v); assignInOrder ((assignEach r env).map (·.2)) vs) Q E s
      refine wpAny_bind (wpAny_holding (assign_Name (store_ok K h ha.1 hv fun s₂ h2 => ?_)))
      exact stores_ok K hy ha.2 hr (Nat.succ.inj hl) h2 fun s' h' => hq s' h'
theorem storesR_ok (K : IfcOk prog w A C env I X sa) {o : O} {fz : Led} {Q : Unit → Shared → Prop} {E : Value → Shared → Prop} : ∀ {xs : List Str} {vs : List Value} {ds : List V} {ρ : Loc} {s : Shared}, xs.all I.names.contains = true → DatAll fz vs ds → xs.length = ds.length →
    At C o ρ fz s → (∀ s', At C o (bindAll xs ds ρ) fz s' → Q () s') → wpAny (model prog w) A (assignInOrder (xs.map fun n => bindName env n) vs) Q E s
  | [], vs, ds, ρ, s, ha, hd, hl, h, hq => by
    cases hd with
    | nil => exact wpAny_pure (hq s h)
    | cons => cases hl
  | x :: xs, vs, ds, ρ, s, ha, hd, hl, h, hq => by
    cases hd with
    | nil => cases hl
    | @cons v vs d ds hv hr =>
      rw [List.all_cons, Bool.and_eq_true] at ha
      show wpAny (model prog w) A (do holding vs (bindName env x v); assignInOrder (xs.map fun n => bindName env n) vs) Q E s
      refine wpAny_bind (wpAny_holding (bindName_ (store_ok K h ha.1 hv fun s₂ h2 => ?_)))
      exact storesR_ok K ha.2 hr (Nat.succ.inj hl) h2 fun s' h' => hq s' h'
theorem datAll_app {fz : Led} {vs vs' : List Value} {ds ds' : List V} (h : DatAll fz vs ds) (h' : DatAll fz vs' ds') : DatAll fz (vs ++ vs') (ds ++ ds') := by
  induction vs generalizing ds with
  | nil => cases h; exact h'
  | cons v vs ih => cases h with | cons a b => exact .cons a (ih b)
theorem datAll_rev {fz : Led} : ∀ {vs : List Value} {ds : List V}, DatAll fz vs ds → DatAll fz vs.reverse ds.reverse := by
  intro vs
  induction vs with
  | nil => intro ds h; cases h; exact .nil
  | cons v vs ih => intro ds h; cases h with | cons a b => rw [List.reverse_cons, List.reverse_cons]; exact datAll_app (ih b) (.cons a .nil)
theorem At.ext2 {o : O} {ρ : Loc} {fz : Led} {s : Shared} (h : At C o ρ fz s) {h' : Heap} (he : Heap.ExtBut s.heap.objs.size s.heap h') : At C o ρ fz { s with heap := h' } := h.ext he s.toks
theorem st_tuple (K : IfcOk prog w A C env I X sa) {o : O} {ρ : Loc} {ts : List Expr} {k : Nat} {p p' : Pos} {e : Expr} {xs : List Str} {r : Option (List Str)} {ds : List V} (hn : namesOf ts = some xs) (hr : swapR ts k p' e env = some r) (he : EvOk prog w A C o env ρ e (.tuple ds))
    (ha : xs.all I.names.contains = true) (hl : xs.length = ds.length) (hc : notComp e = true) (hy : ∀ ys, r = some ys → ys = xs) :
    StOk prog w A C env X o ρ (.Assign [.Tuple ts k p'] e p) (o, swapRho r xs ds ρ, .next) := by
  intro fz s Q E h hq
  have hw := swapR_is hr
  have h0 : swapsWithSole [.Tuple ts k p'] e p.line env = pure false := by unfold swapsWithSole; exact swap_off hc
  cases r with
  | none =>
    refine Assign_Tuple (he fz s _ E h fun fz₁ s₁ va s1 h1 x1 => ?_) h0 hw
    cases x1 with
    | @tuple a vs n _ hm hv =>
      obtain ⟨h', tk, m, R, rfl, F, N, rp, ap, lc, rf⟩ := id h1
      have ht : IsTup h' a vs.toArray := ⟨_, (N _ (List.mem_append_right _ (List.mem_append_left _ hm))).1, rfl, n, rfl⟩
      refine assign_Tuple_tuple K.hh ht ?_ (each_star hn) fun h2 he2 => ?_
      · rw [each_len, names_len hn, hl, List.size_toArray, hv.length]
      · exact stores_ok K hn ha hv hl (h1.ext2 he2) fun s₂ h3 => hq fz₁ s₂ s1 h3
  | some ys =>
    obtain rfl := hy ys rfl
    refine Assign_Tuple_swapped (he fz s _ E h fun fz₁ s₁ va s1 h1 x1 => ?_) h0 hw
    cases x1 with
    | @tuple a vs n _ hm hv =>
      obtain ⟨h', tk, m, R, rfl, F, N, rp, ap, lc, rf⟩ := id h1
      have ht : IsTup h' a vs.toArray := ⟨_, (N _ (List.mem_append_right _ (List.mem_append_left _ hm))).1, rfl, n, rfl⟩
      have e1 : ys.length = vs.toArray.size := by rw [List.size_toArray, hv.length, hl]
      rw [e1]
      refine unpackItems_tuple K.hh ht fun h2 he2 => ?_
      exact storesR_ok K (by simpa using ha) (datAll_rev (by simpa using hv)) (by simpa using hl) (h1.ext2 he2) fun s₂ h3 => hq fz₁ s₂ s1 h3
def SndS (prog : Program) (w : World) (A : Around) (C : Cx O) (env : Env) (X : Nat → Led → Shared → (Value → Shared → Prop) → Prop) {γ : Type} (r : γ) (st : O → Loc → Stmt → (O → Loc → Fl → Option γ) → Option γ) : Prop :=
  ∀ o ρ s k, st o ρ s k = some r → ∃ q, StOk prog w A C env X o ρ s q ∧ k q.1 q.2.1 q.2.2 = some r
def SndB (prog : Program) (w : World) (A : Around) (C : Cx O) (env : Env) (X : Nat → Led → Shared → (Value → Shared → Prop) → Prop) {γ : Type} (r : γ) (bl : O → Loc → List Stmt → (O → Loc → Fl → Option γ) → Option γ) : Prop :=
  ∀ o ρ b k, bl o ρ b k = some r → ∃ q, BlOk prog w A C env X o ρ b q ∧ k q.1 q.2.1 q.2.2 = some r
section
variable {γ : Type} {r : γ} {ev : O → Loc → Expr → (V → Option γ) → Option γ} {bl : O → Loc → List Stmt → (O → Loc → Fl → Option γ) → Option γ}
theorem asg_snd (K : IfcOk prog w A C env I X sa) (he : ∀ o ρ, Snd prog w A C o env ρ r (ev o ρ)) {o : O} {ρ : Loc} {t e : Expr} {p : Pos} {k : O → Loc → Fl → Option γ} (h : asgF I env none ev o ρ t e k = some r) :
    ∃ q, StOk prog w A C env X o ρ (.Assign [t] e p) q ∧ k q.1 q.2.1 q.2.2 = some r := by
  rcases opt_or h with ⟨x, h1, h⟩ | ⟨_, h⟩
  · obtain ⟨p', rfl⟩ := nameOf1_is h1
    obtain ⟨hx, h⟩ := gate_of h
    rw [Bool.and_eq_true] at hx
    obtain ⟨v, hv, h⟩ := he _ _ _ _ h
    exact ⟨_, st_name K hx.1 hx.2 hv.1, h⟩
  · rcases opt_or h with ⟨⟨ts, kk, p'⟩, h1, h⟩ | ⟨_, h⟩
    · rw [vTuple_is h1]
      obtain ⟨xs, hn, h⟩ := opt_of h
      obtain ⟨r', hr, h⟩ := opt_of h
      obtain ⟨hx, h⟩ := gate_of h
      simp only [Bool.and_eq_true] at hx
      obtain ⟨v, hv, h⟩ := he _ _ _ _ h
      obtain ⟨vs, e1, h⟩ := opt_of h
      obtain ⟨h2, hk⟩ := gate_of h
      rw [tupOf_is e1] at hv
      refine ⟨_, st_tuple K hn hr hv.1 hx.1.1 (eq_of_beq h2) hx.1.2 fun ys hy => ?_, hk⟩
      rw [hy] at hx
      exact eq_of_beq hx.2
    · obtain ⟨⟨y, a, p2⟩, h1, h⟩ := opt_of h
      rw [vAttr_is h1]
      obtain ⟨y', h2, h⟩ := opt_of h
      obtain ⟨p1, e1⟩ := nameOf1_is h2
      obtain ⟨hx, h⟩ := gate_of h
      rw [Bool.and_eq_true] at hx
      obtain ⟨v, hv, h⟩ := he _ _ _ _ h
      obtain ⟨o', ho, h⟩ := opt_of h
      have e2 := eq_of_beq hx.1
      dsimp only at e1
      rw [e1, e2]
      exact ⟨_, st_attr K hx.2 hv.1 ho, h⟩
theorem aug_snd (K : IfcOk prog w A C env I X sa) (he : ∀ o ρ, Snd prog w A C o env ρ r (ev o ρ)) {o : O} {ρ : Loc} {t e : Expr} {op : Operator} {p : Pos} {k : O → Loc → Fl → Option γ} (h : augF brO I none ev o ρ t op e k = some r) :
    ∃ q, StOk prog w A C env X o ρ (.AugAssign t op e p) q ∧ k q.1 q.2.1 q.2.2 = some r := by
  obtain ⟨⟨y, a, p2⟩, h1, h⟩ := opt_of h
  rw [vAttr_is h1]
  obtain ⟨y', h2, h⟩ := opt_of h
  obtain ⟨p1, e1⟩ := nameOf1_is h2
  obtain ⟨hx, h⟩ := gate_of h
  obtain ⟨u, hu, h⟩ := opt_of h
  obtain ⟨v, hv, h⟩ := he _ _ _ _ h
  obtain ⟨r', hr, h⟩ := inpK_of h
  obtain ⟨o', ho, h⟩ := opt_of h
  have e2 := eq_of_beq hx
  dsimp only at e1
  rw [e1, e2]
  exact ⟨_, st_aug K hu hv.1 hr ho, h⟩
theorem ret_snd (K : IfcOk prog w A C env I X sa) (he : ∀ o ρ, Snd prog w A C o env ρ r (ev o ρ)) {o : O} {ρ : Loc} {e : Expr} {p : Pos} {k : O → Loc → Fl → Option γ} (h : retF I none ev o ρ e k = some r) :
    ∃ q, StOk prog w A C env X o ρ (.Return (some e) p) q ∧ k q.1 q.2.1 q.2.2 = some r := by
  rcases opt_or h with ⟨g, h1, h⟩ | ⟨_, h⟩
  · obtain ⟨⟨es, n, p'⟩, e1, h1⟩ := opt_of h1
    obtain ⟨⟨c, d⟩, e2, h1⟩ := opt_of h1
    obtain ⟨x, e3, h1⟩ := opt_of h1
    obtain ⟨⟨o', dv⟩, e4, h1⟩ := opt_of h1
    rw [← sj h1] at h
    obtain ⟨hs, h⟩ := gate_of h
    obtain ⟨v, hv, hk⟩ := he _ _ _ _ h
    obtain rfl := vTuple_is e1
    obtain ⟨q, rfl⟩ := nameOf1_is e3
    obtain rfl := two_is e2
    exact ⟨_, st_give K hs hv.1 e4, hk⟩
  · obtain ⟨v, hv, h⟩ := he _ _ _ _ h
    exact ⟨_, st_ret hv.1, h⟩
theorem vPush_is {e : Expr} {q : Str × Pos × Expr × Pos × Pos} (h : vPush e = some q) : e = .Call (.Attribute (.Name q.1 q.2.1) "append" q.2.2.2.1) [q.2.2.1] [] q.2.2.2.2 := by
  obtain ⟨⟨g, args, p⟩, h0, h⟩ := opt_of h
  obtain ⟨⟨v, a, p'⟩, h1, h⟩ := opt_of h
  obtain ⟨x, h2, h⟩ := opt_of h
  obtain ⟨e', h3, h⟩ := opt_of h
  obtain ⟨h4, h⟩ := gate_of h
  obtain rfl := sj h
  have e1 := nameOf1_at h2
  have e2 := vAttr_is h1
  have e3 := one_is h3
  have e4 := eq_of_beq h4
  dsimp only at e1 e2 e3 e4 ⊢
  rw [vCall_is h0, e2, e3, ← e1, e4]
theorem push_snd (K : IfcOk prog w A C env I X sa) (he : ∀ o ρ, Snd prog w A C o env ρ r (ev o ρ)) {o : O} {ρ : Loc} {e : Expr} {p : Pos} {k : O → Loc → Fl → Option γ} (h : pushF brO I none ev o ρ e k = some r) :
    ∃ q, StOk prog w A C env X o ρ (.Expr e p) q ∧ k q.1 q.2.1 q.2.2 = some r := by
  obtain ⟨q, h1, h⟩ := opt_of h
  obtain ⟨h2, h⟩ := gate_of h
  rw [Bool.and_eq_true] at h2
  obtain ⟨v, hv, h⟩ := he _ _ _ _ h
  obtain ⟨⟨gd, o'⟩, ho, h⟩ := opt_of h
  obtain ⟨e1, hk⟩ := brO_of (c := gd) h
  subst e1
  rw [vPush_is h1]
  exact ⟨_, st_push K h2.1 h2.2 hv.1 ho, hk⟩
theorem stF_snd (K : IfcOk prog w A C env I X sa) (he : ∀ o ρ, Snd prog w A C o env ρ r (ev o ρ)) (hb : SndB prog w A C env X r bl) : SndS prog w A C env X r (stF brO I env none ev bl) := by
  intro o ρ st k h
  cases st with
  | Assign ts e p =>
    obtain ⟨t, h1, h⟩ := opt_of h
    rw [one_is h1]
    exact asg_snd K he h
  | AugAssign t op e p => exact aug_snd K he h
  | If t b e p =>
    obtain ⟨v, hv, h⟩ := he _ _ t _ h
    obtain ⟨c, hc, h⟩ := truthK_of h
    cases c with
    | true =>
      obtain ⟨q, hq, h⟩ := hb o ρ b k h
      exact ⟨q, st_if (hv.2 _ hc) hq, h⟩
    | false =>
      obtain ⟨q, hq, h⟩ := hb o ρ e k h
      exact ⟨q, st_if (hv.2 _ hc) hq, h⟩
  | Pass => exact ⟨(o, ρ, .next), fun fz s Q E h hq => wpAny_Pass (hq fz s (fun _ h => h) h), h⟩
  | Break => exact ⟨(o, ρ, .brk), fun fz s Q E h hq => wpAny_Break (hq fz s (fun _ h => h) h), h⟩
  | Continue => exact ⟨(o, ρ, .cont), fun fz s Q E h hq => wpAny_Continue (hq fz s (fun _ h => h) h), h⟩
  | Return e p =>
    cases e with
    | none => exact nn h
    | some e => exact ret_snd K he h
  | Expr e p => exact push_snd K he h
  | _ => exact nn h
theorem execF_snd (K : IfcOk prog w A C env I X sa) (he : ∀ o ρ, Snd prog w A C o env ρ r (ev o ρ)) (hb : SndB prog w A C env X r bl) : SndS prog w A C env X r (execF brO I env none ev bl) := by
  intro o ρ st k h
  rcases opt_or h with ⟨q, h1, h⟩ | ⟨_, h⟩
  · exact ⟨q, K.prim o ρ st _ h1, h⟩
  · rcases opt_or h with ⟨⟨gd, q⟩, h1, h⟩ | ⟨_, h⟩
    · obtain ⟨e1, hk⟩ := brO_of (c := gd) h
      subst e1
      exact ⟨q, K.primB o ρ st _ h1, hk⟩
    · exact stF_snd K he hb o ρ st k h
theorem seqF_snd (hb : SndB prog w A C env X r bl) {st : O → Loc → Stmt → (O → Loc → Fl → Option γ) → Option γ} (hs : SndS prog w A C env X r st) : SndB prog w A C env X r (seqF bl st) := by
  intro o ρ b k h
  cases b with
  | nil => exact ⟨_, bl_nil, h⟩
  | cons s rest =>
    obtain ⟨⟨o', ρ', fl⟩, hq, h⟩ := hs o ρ s _ h
    cases fl with
    | next =>
      obtain ⟨q, hb, h⟩ := hb o' ρ' rest k h
      exact ⟨q, bl_next hq hb, h⟩
    | _ => exact ⟨_, bl_stop hq (fun _ _ e => by cases e), h⟩
theorem execBK_ok (K : IfcOk prog w A C env I X sa) {γ : Type} {r : γ} : ∀ n, SndB prog w A C env X r (execBK brO I env none n)
  | 0 => fun _ _ _ _ h => nn h
  | n + 1 => seqF_snd (execBK_ok K n) (execF_snd K (fun o ρ => evalK_ok (K.orc o) ρ n) (execBK_ok K n))
theorem execK_ok (K : IfcOk prog w A C env I X sa) {γ : Type} {r : γ} (n : Nat) : SndS prog w A C env X r (execSK brO I env none n) ∧ SndB prog w A C env X r (execBK brO I env none n) :=
  ⟨execF_snd K (fun o ρ => evalK_ok (K.orc o) ρ n) (execBK_ok K n), execBK_ok K n⟩
end
end
@[irreducible] noncomputable def runB {O : Type} (I : Ifc O) (env : Env) (n : Nat) (o : O) (ρ : Loc) (b : List Stmt) : Option (O × Loc × Fl) := execBK brO I env none n o ρ b fun o ρ fl => some (o, ρ, fl)
@[irreducible] noncomputable def turn {O : Type} (I : Ifc O) (env : Env) (n : Nat) (test : Expr) (body : List Stmt) (o : O) (ρ : Loc) : Option (Option (O × Loc × Fl)) :=
  evalK brO (I.orc o) ρ none n test fun v => truthK brO none v fun t => brO t (execBK brO I env none n o ρ body fun o ρ fl => some (some (o, ρ, fl))) (some none)
noncomputable def sle : Loc → Loc → Prop
  | [], _ => True
  | y :: r, ρ => ρ.lookup y.1 = some y.2 ∧ sle r ρ
theorem sle_look : ∀ {ρ' ρ : Loc}, sle ρ' ρ → ∀ {x : Str} {v : V}, ρ'.lookup x = some v → ρ.lookup x = some v
  | [], _, _, _, _, h => by cases h
  | y :: r, ρ, ⟨h1, h2⟩, x, v, h => by
    rw [List.lookup_cons] at h
    by_cases e : (x == y.1) = true
    · rw [e] at h; cases h; rw [eq_of_beq e]; exact h1
    · have e : (x == y.1) = false := by simpa using e
      rw [e] at h; exact sle_look h2 h
theorem At.weak {O : Type} {C : Cx O} {o : O} {ρ ρ' : Loc} {fz : Led} {s : Shared} (h : At C o ρ fz s) (hs : sle ρ' ρ) : At C o ρ' fz s := by
  obtain ⟨h, tk', m, R, rfl, F, N, rp, ap, lc, rf⟩ := h
  exact ⟨h, tk', m, R, rfl, F, N, rp, ap, fun x v hx => lc x v (sle_look hs hx), rf⟩
inductive WhileR {O : Type} (I : Ifc O) (env : Env) (N : Nat) (test : Expr) (body : List Stmt) (r : O × Loc × Fl) : Nat → O → Loc → Prop
  | stop {o : O} {ρ : Loc} (h : turn I env N test body o ρ = some none) (hr : r = (o, ρ, .next)) : WhileR I env N test body r 0 o ρ
  | more {n : Nat} {o o' : O} {ρ ρ' : Loc} {fl : Fl} (h : turn I env N test body o ρ = some (some (o', ρ', fl))) (hf : fl = .next ∨ fl = .cont) {ρ₂ : Loc} (hs : sle ρ₂ ρ') (hr : WhileR I env N test body r n o' ρ₂) : WhileR I env N test body r (n + 1) o ρ
  | brk {o o' : O} {ρ ρ' : Loc} (h : turn I env N test body o ρ = some (some (o', ρ', .brk))) (hr : r = (o', ρ', .next)) : WhileR I env N test body r 0 o ρ
  | ret {o o' : O} {ρ ρ' : Loc} {d : V} (h : turn I env N test body o ρ = some (some (o', ρ', .ret d))) (hr : r = (o', ρ', .ret d)) : WhileR I env N test body r 0 o ρ
  | exc {o o' : O} {ρ ρ' : Loc} {k : Nat} (h : turn I env N test body o ρ = some (some (o', ρ', .exc k))) (hr : r = (o', ρ', .exc k)) : WhileR I env N test body r 0 o ρ
inductive WhileS {O : Type} (prog : Program) (w : World) (A : Around) (C : Cx O) (env : Env) (X : Nat → Led → Shared → (Value → Shared → Prop) → Prop) (test : Expr) (body : List Stmt) (r : O × Loc × Fl) : Nat → O → Loc → Prop
  | stop {o : O} {ρ : Loc} (h : TrOk prog w A C o env ρ test false) (hr : r = (o, ρ, .next)) : WhileS prog w A C env X test body r 0 o ρ
  | more {n : Nat} {o o' : O} {ρ ρ' ρ₂ : Loc} {fl : Fl} (h : TrOk prog w A C o env ρ test true) (hb : BlOk prog w A C env X o ρ body (o', ρ', fl)) (hf : fl = .next ∨ fl = .cont) (hs : sle ρ₂ ρ') (hr : WhileS prog w A C env X test body r n o' ρ₂) :
      WhileS prog w A C env X test body r (n + 1) o ρ
  | brk {o o' : O} {ρ ρ' : Loc} (h : TrOk prog w A C o env ρ test true) (hb : BlOk prog w A C env X o ρ body (o', ρ', .brk)) (hr : r = (o', ρ', .next)) : WhileS prog w A C env X test body r 0 o ρ
  | ret {o o' : O} {ρ ρ' : Loc} {d : V} (h : TrOk prog w A C o env ρ test true) (hb : BlOk prog w A C env X o ρ body (o', ρ', .ret d)) (hr : r = (o', ρ', .ret d)) : WhileS prog w A C env X test body r 0 o ρ
  | exc {o o' : O} {ρ ρ' : Loc} {k : Nat} (h : TrOk prog w A C o env ρ test true) (hb : BlOk prog w A C env X o ρ body (o', ρ', .exc k)) (hr : r = (o', ρ', .exc k)) : WhileS prog w A C env X test body r 0 o ρ
section
variable {prog : Program} {w : World} {A : Around} {O : Type} {C : Cx O} {env : Env} {I : Ifc O} {X : Nat → Led → Shared → (Value → Shared → Prop) → Prop} {sa : Addr}
theorem run_ok (K : IfcOk prog w A C env I X sa) {n : Nat} {o : O} {ρ : Loc} {b : List Stmt} {r : O × Loc × Fl} (h : runB I env n o ρ b = some r) : BlOk prog w A C env X o ρ b r := by
  unfold runB at h
  obtain ⟨q, hb, h⟩ := (execK_ok K n).2 _ _ _ _ h
  cases h; exact hb
theorem turn_stop (K : IfcOk prog w A C env I X sa) {n : Nat} {test : Expr} {body : List Stmt} {o : O} {ρ : Loc} (h : turn I env n test body o ρ = some none) : TrOk prog w A C o env ρ test false := by
  unfold turn at h
  obtain ⟨v, hv, h⟩ := evalK_ok (K.orc o) ρ n _ _ h
  obtain ⟨t, ht, h⟩ := truthK_of h
  cases t with
  | false => exact hv.2 _ ht
  | true =>
    obtain ⟨q, hb, h⟩ := (execK_ok K n).2 _ _ body _ h
    exact nn (sj h).symm
theorem turn_body (K : IfcOk prog w A C env I X sa) {n : Nat} {test : Expr} {body : List Stmt} {o : O} {ρ : Loc} {r : O × Loc × Fl} (h : turn I env n test body o ρ = some (some r)) :
    TrOk prog w A C o env ρ test true ∧ BlOk prog w A C env X o ρ body r := by
  unfold turn at h
  obtain ⟨v, hv, h⟩ := evalK_ok (K.orc o) ρ n _ _ h
  obtain ⟨t, ht, h⟩ := truthK_of h
  cases t with
  | false => exact nn (sj h)
  | true =>
    obtain ⟨q, hb, h⟩ := (execK_ok K n).2 _ _ body _ h
    obtain rfl := sj (sj h)
    exact ⟨hv.2 _ ht, hb⟩
inductive WhOut (r : O × Loc × Fl) (more : Nat → O → Loc → Prop) (n : Nat) : O × Loc × Fl → Prop
  | next {m : Nat} {o : O} {ρ ρ₂ : Loc} (e : n = m + 1) (hs : sle ρ₂ ρ) (hm : more m o ρ₂) : WhOut r more n (o, ρ, .next)
  | cont {m : Nat} {o : O} {ρ ρ₂ : Loc} (e : n = m + 1) (hs : sle ρ₂ ρ) (hm : more m o ρ₂) : WhOut r more n (o, ρ, .cont)
  | brk {o : O} {ρ : Loc} (hr : r = (o, ρ, .next)) : WhOut r more n (o, ρ, .brk)
  | ret {o : O} {ρ : Loc} {d : V} (hr : r = (o, ρ, .ret d)) : WhOut r more n (o, ρ, .ret d)
  | exc {o : O} {ρ : Loc} {k : Nat} (hr : r = (o, ρ, .exc k)) : WhOut r more n (o, ρ, .exc k)
theorem whileS_inv {test : Expr} {body : List Stmt} {r : O × Loc × Fl} {n : Nat} {o : O} {ρ : Loc} (hw : WhileS prog w A C env X test body r n o ρ) :
    (TrOk prog w A C o env ρ test false ∧ r = (o, ρ, .next)) ∨ ∃ q, TrOk prog w A C o env ρ test true ∧ BlOk prog w A C env X o ρ body q ∧ WhOut r (WhileS prog w A C env X test body r) n q := by
  cases hw with
  | stop ht hr => exact .inl ⟨ht, hr⟩
  | more ht hb hf hs hr => rcases hf with rfl | rfl <;> first | exact .inr ⟨_, ht, hb, .next rfl hs hr⟩ | exact .inr ⟨_, ht, hb, .cont rfl hs hr⟩
  | brk ht hb hr => exact .inr ⟨_, ht, hb, .brk hr⟩
  | ret ht hb hr => exact .inr ⟨_, ht, hb, .ret hr⟩
  | exc ht hb hr => exact .inr ⟨_, ht, hb, .exc hr⟩
theorem whileS_ok {test : Expr} {body : List Stmt} {p : Pos} {r : O × Loc × Fl} {n : Nat} {o : O} {ρ : Loc}
    (hX : ∀ k fz s E, X k fz s E → X k fz s (notedBy (model prog w) A env (cameBackBy (model prog w) A env E))) (hw : WhileS prog w A C env X test body r n o ρ) :
    StOk prog w A C env X o ρ (.While test body [] p) r := by
  intro fz s Q E h hq
  refine wpAny_While (codeAny_whileLoop (fun n s' => ∃ o ρ fz', WhileS prog w A C env X test body r n o ρ ∧ Sub fz fz' ∧ At C o ρ fz' s') ?_ n ⟨o, ρ, fz, hw, fun _ h => h, h⟩)
  rintro n s' ⟨o, ρ, fz', hw, s1, h1⟩
  have hq' : ∀ fz₂ s₂, Sub fz' fz₂ → At C r.1 r.2.1 fz₂ s₂ → FlQ X r.2.2 fz₂ Q E s₂ := fun fz₂ s₂ s2 h2 => hq fz₂ s₂ (fun p hp => s2 p (s1 p hp)) h2
  rcases whileS_inv hw with ⟨ht, hr⟩ | ⟨q, ht, hb, ho⟩
  · rw [hr] at hq'
    exact ht fz' s' _ _ h1 fun fz₂ s₂ s2 h2 => wpAny_execs_nil (hq' fz₂ s₂ s2 h2)
  · refine ht fz' s' _ _ h1 fun fz₂ s₂ s2 h2 => hb fz₂ s₂ _ _ h2 fun fz₃ s₃ s3 h3 => ?_
    have s4 : Sub fz' fz₃ := fun p hp => s3 p (s2 p hp)
    cases ho with
    | next e hs hm => rw [e]; exact ⟨_, Nat.lt_succ_self _, _, _, fz₃, hm, fun p hp => s4 p (s1 p hp), h3.weak hs⟩
    | cont e hs hm => rw [e]; exact ⟨_, Nat.lt_succ_self _, _, _, fz₃, hm, fun p hp => s4 p (s1 p hp), h3.weak hs⟩
    | brk hr => rw [hr] at hq'; exact hq' fz₃ s₃ s4 h3
    | ret hr => rw [hr] at hq'; exact hq' fz₃ s₃ s4 h3
    | exc hr => rw [hr] at hq'; exact hX _ _ _ _ (hq' fz₃ s₃ s4 h3)
theorem while_ok (K : IfcOk prog w A C env I X sa) {N : Nat} {test : Expr} {body : List Stmt} {p : Pos} {r : O × Loc × Fl} {n : Nat} {o : O} {ρ : Loc}
    (hX : ∀ k fz s E, X k fz s E → X k fz s (notedBy (model prog w) A env (cameBackBy (model prog w) A env E))) (hw : WhileR I env N test body r n o ρ) :
    StOk prog w A C env X o ρ (.While test body [] p) r := by
  refine whileS_ok (n := n) hX ?_
  induction hw with
  | stop h hr => exact .stop (turn_stop K h) hr
  | more h hf hs _ ih => exact .more (turn_body K h).1 (turn_body K h).2 hf hs ih
  | brk h hr => exact .brk (turn_body K h).1 (turn_body K h).2 hr
  | ret h hr => exact .ret (turn_body K h).1 (turn_body K h).2 hr
  | exc h hr => exact .exc (turn_body K h).1 (turn_body K h).2 hr
end
end
theorem inter_off {env : Env} (h : env.scope.kind = .function) : interactive env = false := by unfold interactive; rw [h]; rfl
structure Rim (K : Frag) (p : Program) (loose : List Str) (mean : ExcName → Option Value) (mg mb : Str → Option Value) (A₀ : Around) (base : Heap) (outer : List Env) (A : Around) (env : Env) (h₀ : Heap) (L : Addr) (d : Nat) : Prop where
  B : Below A₀ base outer h₀
  X : K.In h₀
  T : Top p loose mean mg mb h₀
  hA : A.frames = some (env :: outer)
  hf : env.frame = some L
  hk : env.scope.kind = .function
  hl : env.locals = L
  hg : env.globals = mainGlobals
  hb : env.builtins = builtinsNs
  hh : A.handled = none
  hi : interactive env = false
  room : A.depth + d ≤ recursionLimit
section
variable {prog : Program} {w : World} {K : Frag} {p : Program} {loose : List Str} {mean : ExcName → Option Value} {mg mb : Str → Option Value} {A₀ : Around} {base : Heap} {outer : List Env} {A : Around} {env : Env} {O : Type}
noncomputable def calleeCx {O : Type} (C : Cx O) (g : Heap) (L' : Addr) (refs : List (Str × Value)) : Cx O := { s₀ := C.s₀, h₀ := g, L := L', rest := C.rest, refs := refs, Rep := C.Rep, mono := C.mono }
theorem call_enter {C : Cx O} {d : Nat} (R : Rim K p loose mean mg mb A₀ base outer A env C.h₀ C.L (d + 1)) {o : O} {ρ : Loc} {fz : Led} {s : Shared} (h : At C o ρ fz s)
    {name qual : Str} {params : Arguments} {body : List Stmt} {scope : Scope} {dV kV doc pm cdv ct oc : Value} {an od : Option Addr} {osl : Array (Option Value)} {f : Addr} {args : Args} {binds : List (Str × Value)}
    (ho : K.lookup f = some ⟨oc, od, .func (fnOf name qual params body scope dV kV doc pm an cdv ct), osl⟩) (hcd : codeIn K cdv qual = true)
    (hbind : BindsTo s (fnOf name qual params body scope dV kV doc pm an cdv ct) args binds) (hloc : ∀ y ∈ binds, scope.names.lookup y.1 = some .local)
    (hco : scope.isCoroutine = false) (hgen : scope.isGenerator = false) (hk : scope.kind = .function) (hcell : ∀ x ∈ scope.names, x.2 ≠ .cell)
    {ρ' : Loc} {refs' : List (Str × Value)} (hρ : ∀ x v, ρ'.lookup x = some v → ∃ v', binds.reverse.lookup x = some v' ∧ VR fz v v') (hrefs : ∀ q ∈ refs', binds.reverse.lookup q.1 = some q.2)
    {Re : Result → Shared → Prop} {Post : O → V → Prop}
    (hbody : ∀ g L' s', Rim K p loose mean mg mb A base (env :: outer) (A.deeper (envOf qual scope L' f cdv)) (envOf qual scope L' f cdv) g L' d → At (calleeCx C g L' refs') o ρ' fz s' →
      wpAny (model prog w) (A.deeper (envOf qual scope L' f cdv)) (execs body (envOf qual scope L' f cdv))
        (fun fl s'' => ∃ fz' o' ρ'' d, Sub fz fz' ∧ At (calleeCx C g L' refs') o' ρ'' fz' s'' ∧ VR fz' d (match fl with | .ret v => v | _ => .none) ∧ Post o' d)
        (fun e s'' => wpAny (model prog w) (A.deeper (envOf qual scope L' f cdv)) (leaving (envOf qual scope L' f cdv) e) (fun _ s₂ => Re (.error e) s₂) (fun e' s₂ => Re (.error e') s₂) s'') s')
    (hq : ∀ fz' s' o' d v, Post o' d → Sub fz fz' → At C o' ρ fz' s' → VR fz' d v → Re (.ok (.ret v)) s') :
    codeAny (model prog w) A (.call (.ref f) args) Re s := by
  obtain ⟨hp, tk, m, Rl, rfl, F, N, rp, ap, lc, rf⟩ := id h
  refine code_def R.B F R.X N R.T R.hA R.hf R.hk ho hcd (by have := R.room; omega) hbind hloc (fun g L' h₁ FG F' N' B' X' T' => ?_) hco hgen hk hcell
  refine wpAny_mono (hbody g L' _ ⟨B', X', T', ?_, rfl, hk, rfl, rfl, rfl, ?_, inter_off hk, ?_⟩ ⟨h₁, _, _, Rl, rfl, F', N', rp, ap, fun x v hx => hρ x v hx, hrefs⟩) (fun fl s'' hfl => ?_) fun e s'' he => he
  · exact Around.frames_deeper R.hA
  · exact R.hh
  · have := R.room
    show A.depth + 1 + d ≤ _
    omega
  · obtain ⟨fz', o', ρ'', dd, sb, ⟨h₂, tk₂, m₂, R₂, rfl, F₂, N₂, rp₂, ap₂, lc₂, rf₂⟩, hv, hpost⟩ := hfl
    refine ⟨L', m₂, _, F₂, N₂, fun F₃ N₃ => hq fz' _ o' dd _ hpost sb ⟨h₂, tk₂, m, R₂, rfl, F₃, N₃, rp₂, ap₂, lc.mono sb, rf⟩ hv⟩
end
section
set_option tactic.hygienic true
theorem mg_none {K : Frag} {h : Heap} {mg : Str → Option Value} {n : Str} (X : K.In h) (G : h.Ns mainGlobals mg) (e : nsIn K mainGlobals n = some none) : mg n = none := by
  obtain ⟨o, es, ep, ho, hd, _, hf⟩ := G
  unfold nsIn at e
  split at e
  · rename_i c d es' n' sl q
    have := X _ _ q
    rw [ho] at this
    cases this
    cases hd
    split at e
    · cases e
    · rename_i he
      rw [← hf]
      unfold nsFind findBy
      rw [← Array.find?_toList, he]
      rfl
  · cases e
section
variable {prog : Program} {w : World} {K : Frag} {p : Program} {loose : List Str} {mean : ExcName → Option Value} {mg mb : Str → Option Value} {A₀ : Around} {base : Heap} {outer : List Env} {A : Around} {env : Env} {O : Type}
theorem At.now' {C : Cx O} {o : O} {ρ : Loc} {fz : Led} {s : Shared} (h : At C o ρ fz s) : ∃ m news, Fr C.h₀ C.L s.heap m ∧ News C.h₀ C.L s.heap news := by
  obtain ⟨h, tk', m, R, rfl, F, N, rp, ap, lc, rf⟩ := h
  exact ⟨m, _, F, N⟩
theorem glob_name {C : Cx O} {d : Nat} (R : Rim K p loose mean mg mb A₀ base outer A env C.h₀ C.L d) {o : O} {ρ : Loc} {fz : Led} {s : Shared} (h : At C o ρ fz s) {x : Str} {pos : Pos} {v : Value} {Q E : Value → Shared → Prop}
    (e : nsIn K mainGlobals x = some (some v)) (hx : env.kindOf x = some .globalImplicit) (hd : (x == ("__debug__" : Str)) = false) (hq : Q v s) : wpAny (model prog w) A (eval (.Name x pos) env) Q E s := by
  obtain ⟨m, news, F, N⟩ := h.now'
  exact nameG_K F R.X (topRead_of R.T) e hq R.hg R.hk hx hd
theorem blt_name {C : Cx O} {d : Nat} (R : Rim K p loose mean mg mb A₀ base outer A env C.h₀ C.L d) {o : O} {ρ : Loc} {fz : Led} {s : Shared} (h : At C o ρ fz s) {x : Str} {pos : Pos} {v : Value} {Q E : Value → Shared → Prop}
    (e : nsIn K mainGlobals x = some none) (hv : bootBuiltins x = some v) (hn : x ≠ "__name__") (hx : env.kindOf x = some .globalImplicit) (hd : (x == ("__debug__" : Str)) = false) (hq : Q v s) : wpAny (model prog w) A (eval (.Name x pos) env) Q E s := by
  obtain ⟨m, news, F, N⟩ := h.now'
  refine Name_function_global R.hk hx (loadGlobal_builtin (env := env) ?_ (mg_none R.X R.T.g e) ?_ ((R.T.builtins x hn).trans hv) hq) hd
  · rw [R.hg]; exact R.T.g.keeps F.keep
  · rw [R.hb]; exact R.T.b.keeps F.keep
def PureC (prog : Program) (w : World) (K : Frag) (p : Program) (loose : List Str) (mean : ExcName → Option Value) (mg mb : Str → Option Value) (nm : Str) (d : Nat) (f : List V → Option (Bool × V)) : Prop :=
  ∀ {O : Type} {C : Cx O} {A₀ : Around} {base : Heap} {outer : List Env} {A : Around} {env : Env} {o : O} {ρ : Loc} {fz : Led} {s : Shared}, Rim K p loose mean mg mb A₀ base outer A env C.h₀ C.L d → At C o ρ fz s → env.kindOf nm = some .globalImplicit →
    ∀ (args : List Expr) (pos q : Pos) (ds : List V) (r : V), f ds = some (true, r) → args.all notStar = true → args ≠ [] → ∀ (Q E : Value → Shared → Prop),
    wpAny (model prog w) A (spliced (backTo pos (starEach args env))) (fun vs s₁ => ∃ fz₁, Sub fz fz₁ ∧ At C o ρ fz₁ s₁ ∧ DatAll fz₁ vs ds ∧ ∀ fz' s' v', Sub fz₁ fz' → At C o ρ fz' s' → VR fz' r v' → Q v' s') E s →
    wpAny (model prog w) A (eval (.Call (.Name nm q) args [] pos) env) Q E s
theorem Rim.less {C : Cx O} {d d' : Nat} (R : Rim K p loose mean mg mb A₀ base outer A env C.h₀ C.L d) (h : d' ≤ d) : Rim K p loose mean mg mb A₀ base outer A env C.h₀ C.L d' :=
  ⟨R.B, R.X, R.T, R.hA, R.hf, R.hk, R.hl, R.hg, R.hb, R.hh, R.hi, by have := R.room; lia⟩
theorem PureC.mono {nm : Str} {d d' : Nat} {f : List V → Option (Bool × V)} (h : PureC prog w K p loose mean mg mb nm d f) (hd : d ≤ d') : PureC prog w K p loose mean mg mb nm d' f :=
  fun {_ _ _ _ _ _ _ _ _ _ _} R => h (R.less hd)
theorem zip_lookup {fz : Led} : ∀ {xs : List Str} {vs : List Value} {ds : List V}, DatAll fz vs ds → ∀ {x : Str} {d : V}, (xs.zip ds).lookup x = some d → ∃ v, (xs.zip vs).lookup x = some v ∧ VR fz d v
  | [], _, _, _, _, _, h => by cases h
  | _ :: _, _, _, .nil, _, _, h => by cases h
  | y :: ys, _, _, .cons hv hr, x, d, h => by
    rw [List.zip_cons_cons, List.lookup_cons] at h ⊢
    by_cases e : (x == y) = true
    · rw [e] at h ⊢; cases h; exact ⟨_, rfl, hv⟩
    · have e : (x == y) = false := by simpa using e
      rw [e] at h ⊢; exact zip_lookup hr h
theorem lookup_mem {β : Type} {l : List (Str × β)} {x : Str} {v : β} (h : l.lookup x = some v) : (x, v) ∈ l := by
  obtain ⟨l1, l2, he, _⟩ := List.lookup_eq_some_iff.mp h
  rw [he]; exact List.mem_append_right _ (.head _)
theorem lookup_rev {β : Type} : ∀ {l : List (Str × β)} {x : Str} {v : β}, (l.map (·.1)).Nodup → l.lookup x = some v → l.reverse.lookup x = some v := by
  intro l x v hn h
  have h1 : (x, v) ∈ l := lookup_mem h
  have key : ∀ {l : List (Str × β)}, (l.map (·.1)).Nodup → (x, v) ∈ l → l.lookup x = some v := by
    intro l
    induction l with
    | nil => intro _ h; cases h
    | cons a r ih =>
      intro hn hm
      rw [List.map_cons, List.nodup_cons] at hn
      rw [List.lookup_cons]
      rcases List.mem_cons.mp hm with rfl | hm
      · simp
      · have : (x == a.1) = false := by
          rw [beq_eq_false_iff_ne]; rintro rfl
          exact hn.1 (List.mem_map_of_mem (f := (·.1)) hm)
        rw [this]; exact ih hn.2 hm
  refine key ?_ (List.mem_reverse.mpr h1)
  rw [List.map_reverse]; exact List.pairwise_reverse.mpr (hn.imp fun h => Ne.symm h)
noncomputable def pureI (O : Type) (names : List Str) (callT : List (Str × (List V → Option (Bool × V)))) : Ifc O :=
  { names := names, self := "", attr := fun _ _ => none, setA := fun _ _ _ => none, callF := fun _ f ds => (callT.lookup f).bind fun g => g ds, prim := fun _ _ _ => none }
theorem pureI_ok {C : Cx O} {d : Nat} (R : Rim K p loose mean mg mb A₀ base outer A env C.h₀ C.L d) {names : List Str} {callT : List (Str × (List V → Option (Bool × V)))} {X : Nat → Led → Shared → (Value → Shared → Prop) → Prop}
    (hn : ∀ x ∈ names, env.kindOf x = some .local) (hoff : ∀ q ∈ C.refs, names.contains q.1 = false)
    (hc : ∀ y ∈ callT, PureC prog w K p loose mean mg mb y.1 d y.2 ∧ env.kindOf y.1 = some .globalImplicit) : IfcOk prog w A C env (pureI O names callT) X 0 where
  orc o := {
    fn := R.hk
    loc := R.hl
    names := hn
    attr := fun a v h => by cases h
    call := fun f ds d hf ρ fz s Q E q pos args h hs hne hw => by
      obtain ⟨g, hg, hr⟩ := Option.bind_eq_some_iff.mp hf
      have hm : (f, g) ∈ callT := lookup_mem hg
      exact (hc _ hm).1 R h (hc _ hm).2 args pos q ds d hr hs hne Q E hw }
  hh := R.hh
  inter := R.hi
  push := fun o x d o' h => by cases h
  give := fun o x o' d h => by cases h
  off := hoff
  self := .inr ⟨fun _ _ => rfl, fun _ _ _ => rfl⟩
  selfK := .inr ⟨fun _ _ => rfl, fun _ _ _ => rfl⟩
  get := fun o a d h => by cases h
  set := fun o a d o' h => by cases h
  prim := fun o ρ st r h => by cases h
theorem pure_fnR {d : Nat} {nm name qual : Str} {params : Arguments} {body : List Stmt} {scope : Scope} {dV kV doc pm cdv ct oc : Value} {an od : Option Addr} {osl : Array (Option Value)} {f : Addr} {xs : List Str} {spec : List V → Option (Bool × V)}
    (hg : nsIn K mainGlobals nm = some (some (.ref f))) (hdb : (nm == ("__debug__" : Str)) = false)
    (ho : K.lookup f = some ⟨oc, od, .func (fnOf name qual params body scope dV kV doc pm an cdv ct), osl⟩) (hcd : codeIn K cdv qual = true)
    (hbind : ∀ (vs : List Value) (s : Shared), vs.length = xs.length → BindsTo s (fnOf name qual params body scope dV kV doc pm an cdv ct) ⟨vs, []⟩ (xs.zip vs)) (hloc : ∀ y ∈ xs, scope.names.lookup y = some .local) (hnd : xs.Nodup)
    (hco : scope.isCoroutine = false) (hgen : scope.isGenerator = false) (hk : scope.kind = .function) (hcell : ∀ x ∈ scope.names, x.2 ≠ .cell)
    (hlen : ∀ ds r, spec ds = some (true, r) → ds.length = xs.length)
    (hrun : ∀ {O : Type} {C : Cx O} {A₀ : Around} {base : Heap} {outer : List Env} {A : Around} {L : Addr} (o : O) ds r, spec ds = some (true, r) → C.refs = [] → Rim K p loose mean mg mb A₀ base outer A (envOf qual scope L f cdv) C.h₀ C.L d → C.L = L → ∃ ρ, BlOk prog w A C (envOf qual scope L f cdv) (fun _ _ _ _ => False) o (xs.zip ds) body (o, ρ, .ret r)) :
    PureC prog w K p loose mean mg mb nm (d + 1) spec := by
  intro O C A₀ base outer A env o ρ fz s R h hkind args pos q ds r hr hs hne Q E hw
  refine Call_Name rfl (glob_name R h hg hkind hdb ?_)
  cases args with
  | nil => exact absurd rfl hne
  | cons e rest =>
    rw [List.all_cons, Bool.and_eq_true] at hs
    refine callWith_def (o := ⟨oc, od, .func (fnOf name qual params body scope dV kV doc pm an cdv ct), osl⟩) rfl (wpAny_mono hw (fun vs s₁ x => ?_) fun _ _ x => x) (star_off hs.1)
    obtain ⟨fz₁, sb, h₁, hv, hq⟩ := x
    obtain ⟨m₁, news₁, F₁, N₁⟩ := h₁.now'
    refine ⟨F₁.keep _ _ (R.X _ _ ho), wpAny_call ?_⟩
    have hlv : vs.length = xs.length := hv.length.trans (hlen ds r hr)
    refine call_enter (Post := fun o' dd => o' = o ∧ dd = r) R h₁ ho hcd (hbind vs s₁ hlv) (fun y hy => hloc _ (List.of_mem_zip hy).1) hco hgen hk hcell (ρ' := xs.zip ds) (refs' := []) (fun x v hx => ?_) (fun _ hq => by cases hq) (fun g L' s' R' h' => ?_) fun fz' s' o' dd v ⟨e1, e2⟩ sb' h' hv' => ?_
    · obtain ⟨v', e1, e2⟩ := zip_lookup hv hx
      refine ⟨v', lookup_rev ?_ e1, e2⟩
      have : (xs.zip vs).map (·.1) = xs := List.map_fst_zip (by lia)
      rw [this]; exact hnd
    · obtain ⟨ρ'', hb⟩ := hrun (C := calleeCx C g L' []) o ds r hr rfl R' rfl
      exact hb fz₁ s' _ _ h' fun fz₂ s₂ s2 h2 v hv => ⟨fz₂, _, ρ'', r, s2, h2, hv, rfl, rfl⟩
    · subst e1; subst e2
      exact hq fz' s' v sb' h' hv'
theorem pure_fnB {d : Nat} {nm name qual : Str} {params : Arguments} {body : List Stmt} {scope : Scope} {dV kV doc pm cdv ct oc : Value} {an od : Option Addr} {osl : Array (Option Value)} {f : Addr} {xs names : List Str} {callT : List (Str × (List V → Option (Bool × V)))} {spec : List V → Option (Bool × V)}
    (hg : nsIn K mainGlobals nm = some (some (.ref f))) (hdb : (nm == ("__debug__" : Str)) = false)
    (ho : K.lookup f = some ⟨oc, od, .func (fnOf name qual params body scope dV kV doc pm an cdv ct), osl⟩) (hcd : codeIn K cdv qual = true)
    (hbind : ∀ (vs : List Value) (s : Shared), vs.length = xs.length → BindsTo s (fnOf name qual params body scope dV kV doc pm an cdv ct) ⟨vs, []⟩ (xs.zip vs)) (hloc : ∀ y ∈ xs, scope.names.lookup y = some .local) (hnd : xs.Nodup)
    (hco : scope.isCoroutine = false) (hgen : scope.isGenerator = false) (hk : scope.kind = .function) (hcell : ∀ x ∈ scope.names, x.2 ≠ .cell)
    (hnames : ∀ L, ∀ x ∈ names, (envOf qual scope L f cdv).kindOf x = some .local)
    (hc : ∀ L, ∀ y ∈ callT, PureC prog w K p loose mean mg mb y.1 d y.2 ∧ (envOf qual scope L f cdv).kindOf y.1 = some .globalImplicit)
    (hlen : ∀ ds r, spec ds = some (true, r) → ds.length = xs.length)
    (hrun : ∀ {O : Type} {C : Cx O} {A : Around} {L : Addr} (o : O) ds r, spec ds = some (true, r) → IfcOk prog w A C (envOf qual scope L f cdv) (pureI O names callT) (fun _ _ _ _ => False) 0 → ∃ ρ, BlOk prog w A C (envOf qual scope L f cdv) (fun _ _ _ _ => False) o (xs.zip ds) body (o, ρ, .ret r)) :
    PureC prog w K p loose mean mg mb nm (d + 1) spec :=
  pure_fnR hg hdb ho hcd hbind hloc hnd hco hgen hk hcell hlen fun {O C A₀ base outer A L} o ds r hr hrefs R' _ =>
    hrun o ds r hr (pureI_ok R' (hnames L) (fun _ hq => by rw [hrefs] at hq; cases hq) (hc L))
theorem pure_fn {d n : Nat} {nm name qual : Str} {params : Arguments} {body : List Stmt} {scope : Scope} {dV kV doc pm cdv ct oc : Value} {an od : Option Addr} {osl : Array (Option Value)} {f : Addr} {xs names : List Str} {callT : List (Str × (List V → Option (Bool × V)))} {spec : List V → Option (Bool × V)}
    (hg : nsIn K mainGlobals nm = some (some (.ref f))) (hdb : (nm == ("__debug__" : Str)) = false)
    (ho : K.lookup f = some ⟨oc, od, .func (fnOf name qual params body scope dV kV doc pm an cdv ct), osl⟩) (hcd : codeIn K cdv qual = true)
    (hbind : ∀ (vs : List Value) (s : Shared), vs.length = xs.length → BindsTo s (fnOf name qual params body scope dV kV doc pm an cdv ct) ⟨vs, []⟩ (xs.zip vs)) (hloc : ∀ y ∈ xs, scope.names.lookup y = some .local) (hnd : xs.Nodup)
    (hco : scope.isCoroutine = false) (hgen : scope.isGenerator = false) (hk : scope.kind = .function) (hcell : ∀ x ∈ scope.names, x.2 ≠ .cell)
    (hnames : ∀ L, ∀ x ∈ names, (envOf qual scope L f cdv).kindOf x = some .local)
    (hc : ∀ L, ∀ y ∈ callT, PureC prog w K p loose mean mg mb y.1 d y.2 ∧ (envOf qual scope L f cdv).kindOf y.1 = some .globalImplicit)
    (hlen : ∀ ds r, spec ds = some (true, r) → ds.length = xs.length)
    (hrun : ∀ {O : Type} (o : O) L ds r, spec ds = some (true, r) → execBK brO (pureI O names callT) (envOf qual scope L f cdv) none n o (xs.zip ds) body (fun o _ fl => some (o, fl)) = some (o, .ret r)) :
    PureC prog w K p loose mean mg mb nm (d + 1) spec :=
  pure_fnB hg hdb ho hcd hbind hloc hnd hco hgen hk hcell hnames hc hlen fun {O C A L} o ds r hr IK => by
    obtain ⟨⟨o₂, ρ'', fl⟩, hb, e⟩ := (execK_ok IK n).2 _ _ _ _ (hrun o L ds r hr)
    obtain ⟨rfl, rfl⟩ : o₂ = o ∧ fl = .ret r := by simpa using e
    exact ⟨ρ'', hb⟩
end
end
noncomputable abbrev pw := PySem.Challenge.pw_in0035_02
noncomputable def stAt (i : Nat) : Stmt := (pw.main.body[i]?).getD (.Pass ⟨0, 0, 0, 0⟩)
noncomputable def fbody : Stmt → List Stmt
  | .FunctionDef _ _ b .. => b
  | _ => []
noncomputable def fscope : Stmt → Scope
  | .FunctionDef _ _ _ _ _ _ sc .. => sc
  | _ => ⟨.function, [], false, false, []⟩
noncomputable def fpar : Stmt → Arguments
  | .FunctionDef _ a .. => a
  | _ => ⟨[], [], none, [], [], none, []⟩
noncomputable def cbody : Stmt → List Stmt
  | .ClassDef _ _ _ b .. => b
  | _ => []
noncomputable def meth (i j : Nat) : Stmt := ((cbody (stAt i))[j]?).getD (.Pass ⟨0, 0, 0, 0⟩)
noncomputable def wbody : Stmt → List Stmt
  | .While _ b .. => b
  | _ => []
noncomputable def wtest : Stmt → Expr
  | .While t .. => t
  | _ => .Constant .none 0 ⟨0, 0, 0, 0⟩
noncomputable def locs (sc : Scope) : List Str := (sc.names.filter fun x => x.2 == .local).map (·.1)
set_option maxHeartbeats 2000000 in
noncomputable abbrev kE (P : Params) (x : String) (n : Nat) (v : Value) : DictEntry := DictEntry.mk (PyData.keyHash P (Str.ofString x)) (Value.str (Str.ofString x) n) v
noncomputable def K02 (P : Params) : Frag := [
  (3, Obj.mk (Value.type "dict") none (Data.dict #[kE P "__name__" 165 (Value.str (ofString "law_in0035_02") 1142), kE P "__doc__" 166 Value.none, kE P "__package__" 167 Value.none, kE P "__loader__" 168 (Value.builtin "__main__.__loader__#opaque"), kE P "__spec__" 169 Value.none, kE P "__annotations__" 170 (Value.ref 6), kE P "__builtins__" 171 (Value.ref 4), kE P "__file__" 173 (Value.str (ofString "/claim/cut.py") 172), kE P "__cached__" 174 Value.none, kE P "deque" 272 (Value.type "collections.deque"), kE P "_wall" 285 (Value.ref 39), kE P "_whence" 295 (Value.ref 46), kE P "_index" 303 (Value.ref 53), kE P "UnsupportedOperation" 325 (Value.ref 63), kE P "IOBase" 357 (Value.ref 83), kE P "BufferedIOBase" 375 (Value.ref 98), kE P "TextIOBase" 393 (Value.ref 110), kE P "BytesIO" 655 (Value.ref 340), kE P "StringIO" 942 (Value.ref 587), kE P "_kind" 953 (Value.ref 596), kE P "_fspath" 962 (Value.ref 603), kE P "_check_arg_types" 972 (Value.ref 610), kE P "isabs" 979 (Value.ref 617), kE P "join" 990 (Value.ref 624), kE P "dirname" 1000 (Value.ref 631), kE P "shlex" 1141 (Value.ref 722), kE P "_law_sign" 1151 (Value.ref 733), kE P "_law_in_word" 1160 (Value.ref 740), kE P "_law_piece" 1171 (Value.ref 747), kE P "_law_tell" 1191 (Value.ref 754), kE P "law" 1197 (Value.ref 759)] 31) #[]),
  (52, Obj.mk (Value.type "code") none (Data.fields #[Value.str (ofString "_index") 296, Value.str (ofString "_index") 297, Value.str (ofString "/claim/cut.py") 298, Value.int 11 0, Value.int 2 0, Value.int 0 0, Value.int 0 0, Value.int 3 0, Value.ref 47, Value.bool true, Value.int 273 0, Value.ref 48, Value.none, Value.ref 49, Value.ref 50, Value.ref 51, Value.int 301 0, Value.int 11 0, Value.str (ofString "/claim/cut.py") 302]) #[]),
  (53, ⟨.type "function", none, .func (fnOf "_index" "_index" (fpar (stAt 4)) (fbody (stAt 4)) (fscope (stAt 4)) .none .none .none (.str "io" 286) none (.ref 52) .none), #[]⟩),
  (79, Obj.mk (Value.type "code") none (Data.fields #[Value.str (ofString "__new__") 340, Value.str (ofString "IOBase.__new__") 341, Value.str (ofString "/claim/cut.py") 342, Value.int 23 0, Value.int 1 0, Value.int 1 0, Value.int 0 0, Value.int 15 0, Value.ref 74, Value.bool true, Value.int 273 0, Value.ref 75, Value.none, Value.ref 76, Value.ref 77, Value.ref 78, Value.int 346 0, Value.int 23 0, Value.str (ofString "/claim/cut.py") 347]) #[]),
  (80, ⟨.type "function", none, .func (fnOf "__new__" "IOBase.__new__" (fpar (meth 6 1)) (fbody (meth 6 1)) (fscope (meth 6 1)) .none .none .none (.str "io" 286) none (.ref 79) .none), #[]⟩),
  (82, Obj.mk (Value.type "dict") none (Data.dict #[kE P "__module__" 333 (Value.str (ofString "io") 338), kE P "__firstlineno__" 337 (Value.int 20 336), kE P "__new__" 348 (Value.ref 84), kE P "__static_attributes__" 349 (Value.ref 81), kE P "__dict__" 352 (Value.ref 85), kE P "__weakref__" 354 (Value.ref 86), kE P "__doc__" 355 Value.none] 4) #[]),
  (83, Obj.mk (Value.type "type") none (Data.cls (ClassData.mk (ofString "IOBase") [Value.type "object"] [Value.ref 83, Value.type "object"] 82 (ofString "IOBase") true [] [Value.ref 98, Value.ref 110] false none false)) #[none, none, some (Value.str (ofString "IOBase") 326), some (Value.str (ofString "IOBase") 334), some Value.none, some (Value.bool true)]),
  (84, Obj.mk (Value.type "staticmethod") none (Data.fields #[Value.ref 80]) #[]),
  (109, Obj.mk (Value.type "dict") none (Data.dict #[kE P "__module__" 383 (Value.str (ofString "io") 388), kE P "__firstlineno__" 387 (Value.int 29 386), kE P "__static_attributes__" 390 (Value.ref 108), kE P "__doc__" 391 Value.none] 2) #[]),
  (110, Obj.mk (Value.type "type") none (Data.cls (ClassData.mk (ofString "TextIOBase") [Value.ref 83] [Value.ref 110, Value.ref 83, Value.type "object"] 109 (ofString "TextIOBase") true [] [Value.ref 587] false none false)) #[some (Value.ref 101), none, some (Value.str (ofString "TextIOBase") 376), some (Value.str (ofString "TextIOBase") 384), some Value.none, some (Value.bool true)]),
  (350, Obj.mk (Value.type "tuple") none (Data.seq #[Value.str (ofString "") 670, Value.str (ofString "\n") 671]) #[]),
  (356, Obj.mk (Value.type "code") none (Data.fields #[Value.str (ofString "__init__") 672, Value.str (ofString "StringIO.__init__") 673, Value.str (ofString "/claim/cut.py") 674, Value.int 204 0, Value.int 3 0, Value.int 0 0, Value.int 0 0, Value.int 3 0, Value.ref 351, Value.bool true, Value.int 273 0, Value.ref 352, Value.none, Value.ref 353, Value.ref 354, Value.ref 355, Value.int 678 0, Value.int 204 0, Value.str (ofString "/claim/cut.py") 679]) #[]),
  (357, ⟨.type "function", none, .func (fnOf "__init__" "StringIO.__init__" (fpar (meth 10 1)) (fbody (meth 10 1)) (fscope (meth 10 1)) (.ref 350) .none .none (.str "io" 286) none (.ref 356) .none), #[]⟩),
  (363, Obj.mk (Value.type "code") none (Data.fields #[Value.str (ofString "__translated") 681, Value.str (ofString "StringIO.__translated") 682, Value.str (ofString "/claim/cut.py") 683, Value.int 217 0, Value.int 2 0, Value.int 0 0, Value.int 0 0, Value.int 3 0, Value.ref 358, Value.bool true, Value.int 273 0, Value.ref 359, Value.none, Value.ref 360, Value.ref 361, Value.ref 362, Value.int 687 0, Value.int 217 0, Value.str (ofString "/claim/cut.py") 688]) #[]),
  (364, ⟨.type "function", none, .func (fnOf "__translated" "StringIO.__translated" (fpar (meth 10 2)) (fbody (meth 10 2)) (fscope (meth 10 2)) .none .none .none (.str "io" 286) none (.ref 363) .none), #[]⟩),
  (370, Obj.mk (Value.type "code") none (Data.fields #[Value.str (ofString "__check") 690, Value.str (ofString "StringIO.__check") 691, Value.str (ofString "/claim/cut.py") 692, Value.int 225 0, Value.int 1 0, Value.int 0 0, Value.int 0 0, Value.int 3 0, Value.ref 365, Value.bool true, Value.int 273 0, Value.ref 366, Value.none, Value.ref 367, Value.ref 368, Value.ref 369, Value.int 694 0, Value.int 225 0, Value.str (ofString "/claim/cut.py") 695]) #[]),
  (371, ⟨.type "function", none, .func (fnOf "__check" "StringIO.__check" (fpar (meth 10 3)) (fbody (meth 10 3)) (fscope (meth 10 3)) .none .none .none (.str "io" 286) none (.ref 370) .none), #[]⟩),
  (384, Obj.mk (Value.type "code") none (Data.fields #[Value.str (ofString "__line") 704, Value.str (ofString "StringIO.__line") 705, Value.str (ofString "/claim/cut.py") 706, Value.int 233 0, Value.int 2 0, Value.int 0 0, Value.int 0 0, Value.int 3 0, Value.ref 379, Value.bool true, Value.int 273 0, Value.ref 380, Value.none, Value.ref 381, Value.ref 382, Value.ref 383, Value.int 716 0, Value.int 233 0, Value.str (ofString "/claim/cut.py") 717]) #[]),
  (385, ⟨.type "function", none, .func (fnOf "__line" "StringIO.__line" (fpar (meth 10 5)) (fbody (meth 10 5)) (fscope (meth 10 5)) .none .none .none (.str "io" 286) none (.ref 384) .none), #[]⟩),
  (526, Obj.mk (Value.type "tuple") none (Data.seq #[Value.int (-1) 863]) #[]),
  (532, Obj.mk (Value.type "code") none (Data.fields #[Value.str (ofString "read") 864, Value.str (ofString "StringIO.read") 865, Value.str (ofString "/claim/cut.py") 866, Value.int 347 0, Value.int 2 0, Value.int 2 0, Value.int 0 0, Value.int 3 0, Value.ref 527, Value.bool true, Value.int 273 0, Value.ref 528, Value.none, Value.ref 529, Value.ref 530, Value.ref 531, Value.int 871 0, Value.int 347 0, Value.str (ofString "/claim/cut.py") 872]) #[]),
  (533, ⟨.type "function", none, .func (fnOf "read" "StringIO.read" (fpar (meth 10 25)) (fbody (meth 10 25)) (fscope (meth 10 25)) (.ref 526) .none .none (.str "io" 286) none (.ref 532) .none), #[]⟩),
  (534, Obj.mk (Value.type "tuple") none (Data.seq #[Value.int (-1) 875]) #[]),
  (540, Obj.mk (Value.type "code") none (Data.fields #[Value.str (ofString "readline") 876, Value.str (ofString "StringIO.readline") 877, Value.str (ofString "/claim/cut.py") 878, Value.int 361 0, Value.int 2 0, Value.int 2 0, Value.int 0 0, Value.int 3 0, Value.ref 535, Value.bool true, Value.int 273 0, Value.ref 536, Value.none, Value.ref 537, Value.ref 538, Value.ref 539, Value.int 881 0, Value.int 361 0, Value.str (ofString "/claim/cut.py") 882]) #[]),
  (541, ⟨.type "function", none, .func (fnOf "readline" "StringIO.readline" (fpar (meth 10 26)) (fbody (meth 10 26)) (fscope (meth 10 26)) (.ref 534) .none .none (.str "io" 286) none (.ref 540) .none), #[]⟩),
  (586, Obj.mk (Value.type "dict") none (Data.dict #[kE P "__module__" 663 (Value.str (ofString "_io") 668), kE P "__firstlineno__" 667 (Value.int 201 666), kE P "__init__" 680 (Value.ref 357), kE P "_StringIO__translated" 689 (Value.ref 364), kE P "_StringIO__check" 696 (Value.ref 371), kE P "_StringIO__check_dot" 703 (Value.ref 378), kE P "_StringIO__line" 718 (Value.ref 385), kE P "closed" 726 (Value.ref 393), kE P "line_buffering" 734 (Value.ref 401), kE P "newlines" 742 (Value.ref 409), kE P "encoding" 750 (Value.ref 417), kE P "errors" 758 (Value.ref 425), kE P "close" 765 (Value.ref 432), kE P "__enter__" 772 (Value.ref 439), kE P "__exit__" 780 (Value.ref 446), kE P "readable" 787 (Value.ref 453), kE P "writable" 794 (Value.ref 460), kE P "seekable" 801 (Value.ref 467), kE P "isatty" 808 (Value.ref 474), kE P "flush" 815 (Value.ref 481), kE P "fileno" 822 (Value.ref 488), kE P "detach" 829 (Value.ref 495), kE P "getvalue" 836 (Value.ref 502), kE P "tell" 843 (Value.ref 509), kE P "seek" 853 (Value.ref 517), kE P "truncate" 861 (Value.ref 525), kE P "read" 873 (Value.ref 533), kE P "readline" 883 (Value.ref 541), kE P "readlines" 893 (Value.ref 549), kE P "__iter__" 900 (Value.ref 556), kE P "__next__" 908 (Value.ref 563), kE P "write" 920 (Value.ref 570), kE P "writelines" 928 (Value.ref 577), kE P "__repr__" 935 (Value.ref 584), kE P "__static_attributes__" 939 (Value.ref 585), kE P "__doc__" 940 Value.none] 2) #[]),
  (587, Obj.mk (Value.type "type") none (Data.cls (ClassData.mk (ofString "StringIO") [Value.ref 110] [Value.ref 587, Value.ref 110, Value.ref 83, Value.type "object"] 586 (ofString "StringIO") true [] [] false none false)) #[some (Value.ref 343), none, some (Value.str (ofString "StringIO") 656), some (Value.str (ofString "StringIO") 664), some Value.none, some (Value.bool true)]),
  (639, Obj.mk (Value.type "tuple") none (Data.seq #[Value.none, Value.none, Value.bool false, Value.bool false]) #[]),
  (645, Obj.mk (Value.type "code") none (Data.fields #[Value.str (ofString "__init__") 1015, Value.str (ofString "shlex.__init__") 1016, Value.str (ofString "/claim/cut.py") 1017, Value.int 472 0, Value.int 5 0, Value.int 0 0, Value.int 0 0, Value.int 3 0, Value.ref 640, Value.bool true, Value.int 273 0, Value.ref 641, Value.none, Value.ref 642, Value.ref 643, Value.ref 644, Value.int 1024 0, Value.int 472 0, Value.str (ofString "/claim/cut.py") 1025]) #[]),
  (646, ⟨.type "function", none, .func (fnOf "__init__" "shlex.__init__" (fpar (meth 19 0)) (fbody (meth 19 0)) (fscope (meth 19 0)) (.ref 639) .none .none (.str "cpy313.shlex" 1001) none (.ref 645) .none), #[]⟩),
  (652, Obj.mk (Value.type "code") none (Data.fields #[Value.str (ofString "punctuation_chars") 1027, Value.str (ofString "shlex.punctuation_chars") 1028, Value.str (ofString "/claim/cut.py") 1029, Value.int 513 0, Value.int 1 0, Value.int 0 0, Value.int 0 0, Value.int 3 0, Value.ref 647, Value.bool true, Value.int 273 0, Value.ref 648, Value.none, Value.ref 649, Value.ref 650, Value.ref 651, Value.int 1031 0, Value.int 513 0, Value.str (ofString "/claim/cut.py") 1032]) #[]),
  (653, ⟨.type "function", none, .func (fnOf "punctuation_chars" "shlex.punctuation_chars" (fpar (meth 19 1)) (fbody (meth 19 1)) (fscope (meth 19 1)) .none .none .none (.str "cpy313.shlex" 1001) none (.ref 652) .none), #[]⟩),
  (654, Obj.mk (Value.type "property") none (Data.fields #[Value.ref 653, Value.none, Value.none, Value.none, Value.str (ofString "punctuation_chars") 1034, Value.bool false]) #[]),
  (682, Obj.mk (Value.type "code") none (Data.fields #[Value.str (ofString "get_token") 1059, Value.str (ofString "shlex.get_token") 1060, Value.str (ofString "/claim/cut.py") 1061, Value.int 540 0, Value.int 1 0, Value.int 0 0, Value.int 0 0, Value.int 3 0, Value.ref 677, Value.bool true, Value.int 273 0, Value.ref 678, Value.none, Value.ref 679, Value.ref 680, Value.ref 681, Value.int 1068 0, Value.int 540 0, Value.str (ofString "/claim/cut.py") 1069]) #[]),
  (683, ⟨.type "function", none, .func (fnOf "get_token" "shlex.get_token" (fpar (meth 19 5)) (fbody (meth 19 5)) (fscope (meth 19 5)) .none .none .none (.str "cpy313.shlex" 1001) none (.ref 682) .none), #[]⟩),
  (689, Obj.mk (Value.type "code") none (Data.fields #[Value.str (ofString "read_token") 1071, Value.str (ofString "shlex.read_token") 1072, Value.str (ofString "/claim/cut.py") 1073, Value.int 567 0, Value.int 1 0, Value.int 0 0, Value.int 0 0, Value.int 3 0, Value.ref 684, Value.bool true, Value.int 273 0, Value.ref 685, Value.none, Value.ref 686, Value.ref 687, Value.ref 688, Value.int 1079 0, Value.int 567 0, Value.str (ofString "/claim/cut.py") 1080]) #[]),
  (690, ⟨.type "function", none, .func (fnOf "read_token" "shlex.read_token" (fpar (meth 19 6)) (fbody (meth 19 6)) (fscope (meth 19 6)) .none .none .none (.str "cpy313.shlex" 1001) none (.ref 689) .none), #[]⟩),
  (721, Obj.mk (Value.type "dict") none (Data.dict #[kE P "__module__" 1010 (Value.str (ofString "cpy313.shlex") 1001), kE P "__firstlineno__" 1014 (Value.int 470 1013), kE P "__init__" 1026 (Value.ref 646), kE P "punctuation_chars" 1034 (Value.ref 654), kE P "push_token" 1042 (Value.ref 661), kE P "push_source" 1051 (Value.ref 669), kE P "pop_source" 1058 (Value.ref 676), kE P "get_token" 1070 (Value.ref 683), kE P "read_token" 1081 (Value.ref 690), kE P "sourcehook" 1089 (Value.ref 697), kE P "error_leader" 1098 (Value.ref 705), kE P "__iter__" 1105 (Value.ref 712), kE P "__next__" 1113 (Value.ref 719), kE P "__static_attributes__" 1134 (Value.ref 720), kE P "__dict__" 1136 (Value.ref 723), kE P "__weakref__" 1138 (Value.ref 724), kE P "__doc__" 1139 Value.none] 4) #[]),
  (722, Obj.mk (Value.type "type") none (Data.cls (ClassData.mk (ofString "shlex") [Value.type "object"] [Value.ref 722, Value.type "object"] 721 (ofString "shlex") true [] [] false none false)) #[none, none, some (Value.str (ofString "shlex") 1003), some (Value.str (ofString "shlex") 1011), some (Value.builtin "object.__new__"), some (Value.bool true)]),
  (732, Obj.mk (Value.type "code") none (Data.fields #[Value.str (ofString "_law_sign") 1144, Value.str (ofString "_law_sign") 1145, Value.str (ofString "/claim/cut.py") 1146, Value.int 723 0, Value.int 1 0, Value.int 0 0, Value.int 0 0, Value.int 3 0, Value.ref 727, Value.bool true, Value.int 273 0, Value.ref 728, Value.none, Value.ref 729, Value.ref 730, Value.ref 731, Value.int 1149 0, Value.int 723 0, Value.str (ofString "/claim/cut.py") 1150]) #[]),
  (733, ⟨.type "function", none, .func (fnOf "_law_sign" "_law_sign" (fpar (stAt 21)) (fbody (stAt 21)) (fscope (stAt 21)) .none .none .none (.str "law_in0035_02" 1142) none (.ref 732) .none), #[]⟩),
  (739, Obj.mk (Value.type "code") none (Data.fields #[Value.str (ofString "_law_in_word") 1152, Value.str (ofString "_law_in_word") 1153, Value.str (ofString "/claim/cut.py") 1154, Value.int 730 0, Value.int 3 0, Value.int 0 0, Value.int 0 0, Value.int 3 0, Value.ref 734, Value.bool true, Value.int 273 0, Value.ref 735, Value.none, Value.ref 736, Value.ref 737, Value.ref 738, Value.int 1158 0, Value.int 730 0, Value.str (ofString "/claim/cut.py") 1159]) #[]),
  (740, ⟨.type "function", none, .func (fnOf "_law_in_word" "_law_in_word" (fpar (stAt 22)) (fbody (stAt 22)) (fscope (stAt 22)) .none .none .none (.str "law_in0035_02" 1142) none (.ref 739) .none), #[]⟩),
  (746, Obj.mk (Value.type "code") none (Data.fields #[Value.str (ofString "_law_piece") 1161, Value.str (ofString "_law_piece") 1162, Value.str (ofString "/claim/cut.py") 1163, Value.int 736 0, Value.int 3 0, Value.int 0 0, Value.int 0 0, Value.int 3 0, Value.ref 741, Value.bool true, Value.int 273 0, Value.ref 742, Value.none, Value.ref 743, Value.ref 744, Value.ref 745, Value.int 1169 0, Value.int 736 0, Value.str (ofString "/claim/cut.py") 1170]) #[]),
  (747, ⟨.type "function", none, .func (fnOf "_law_piece" "_law_piece" (fpar (stAt 23)) (fbody (stAt 23)) (fscope (stAt 23)) .none .none .none (.str "law_in0035_02" 1142) none (.ref 746) .none), #[]⟩),
  (753, Obj.mk (Value.type "code") none (Data.fields #[Value.str (ofString "_law_tell") 1172, Value.str (ofString "_law_tell") 1173, Value.str (ofString "/claim/cut.py") 1174, Value.int 750 0, Value.int 3 0, Value.int 0 0, Value.int 0 0, Value.int 3 0, Value.ref 748, Value.bool true, Value.int 273 0, Value.ref 749, Value.none, Value.ref 750, Value.ref 751, Value.ref 752, Value.int 1189 0, Value.int 750 0, Value.str (ofString "/claim/cut.py") 1190]) #[]),
  (754, ⟨.type "function", none, .func (fnOf "_law_tell" "_law_tell" (fpar (stAt 24)) (fbody (stAt 24)) (fscope (stAt 24)) .none .none .none (.str "law_in0035_02" 1142) none (.ref 753) .none), #[]⟩),
  (758, Obj.mk (Value.type "code") none (Data.fields #[Value.str (ofString "law") 1192, Value.str (ofString "law") 1193, Value.str (ofString "/claim/cut.py") 1194, Value.int 791 0, Value.int 1 0, Value.int 0 0, Value.int 0 0, Value.int 3 0, Value.ref 755, Value.bool true, Value.int 273 0, Value.ref 756, Value.none, Value.none, Value.none, Value.ref 757, Value.int 1195 0, Value.int 791 0, Value.str (ofString "/claim/cut.py") 1196]) #[]),
  (759, ⟨.type "function", none, .func (fnOf "law" "law" (fpar (stAt 25)) (fbody (stAt 25)) (fscope (stAt 25)) .none .none .none (.str "law_in0035_02" 1142) none (.ref 758) .none), #[]⟩)]
noncomputable def A02 : List Addr := [3, 52, 53, 79, 80, 82, 83, 84, 109, 110, 350, 356, 357, 363, 364, 370, 371, 384, 385, 526, 532, 533, 534, 540, 541, 586, 587, 639, 645, 646, 652, 653, 654, 682, 683, 689, 690, 721, 722, 732, 733, 739, 740, 746, 747, 753, 754, 758, 759]
@[irreducible] noncomputable def runR {O : Type} (I : Ifc O) (env : Env) (n : Nat) (o : O) (ρ : Loc) (b : List Stmt) : Option (O × Fl) := execBK brO I env none n o ρ b fun o _ fl => some (o, fl)
@[irreducible] noncomputable def runS {O : Type} (I : Ifc O) (env : Env) (n : Nat) (o : O) (ρ : Loc) (st : Stmt) : Option (O × Loc × Fl) := execSK brO I env none n o ρ st fun o ρ fl => some (o, ρ, fl)
noncomputable def hdS (l : List Stmt) (i : Nat) : Stmt := (l[i]?).getD (.Pass ⟨0, 0, 0, 0⟩)
section
variable {prog : Program} {w : World} {A : Around} {O : Type} {C : Cx O} {env : Env} {I : Ifc O} {X : Nat → Led → Shared → (Value → Shared → Prop) → Prop} {sa : Addr}
theorem runR_ok (K : IfcOk prog w A C env I X sa) {n : Nat} {o o' : O} {ρ : Loc} {b : List Stmt} {fl : Fl} (h : runR I env n o ρ b = some (o', fl)) : ∃ ρ', BlOk prog w A C env X o ρ b (o', ρ', fl) := by
  unfold runR at h
  obtain ⟨q, hb, h⟩ := (execK_ok K n).2 _ _ _ _ h
  cases h; exact ⟨_, hb⟩
theorem runS_ok (K : IfcOk prog w A C env I X sa) {n : Nat} {o : O} {ρ : Loc} {st : Stmt} {r : O × Loc × Fl} (h : runS I env n o ρ st = some r) : StOk prog w A C env X o ρ st r := by
  unfold runS at h
  obtain ⟨q, hb, h⟩ := (execK_ok K n).1 _ _ _ _ h
  cases h; exact hb
end
noncomputable def orK {β : Type} (x y : Bool) (k : Bool → β) (rest : β) : β := bif x then bif y then k true else rest else rest
theorem orK_is {β : Type} (x y z : Bool) (k : Bool → β) : orK x y k (k z) = k ((x && y) || z) := by cases x <;> cases y <;> rfl
noncomputable def inWord (sign : Str) (posix : Bool) (marks : Str) : Bool :=
  !Txt.contains marks sign && ((!strLt sign "a" && !strLt "z" sign) || ((!strLt sign "A" && !strLt "Z" sign) || ((!strLt sign "0" && !strLt "9" sign) || (Txt.contains "_~-./*?=" sign ||
    (posix && ((!strLt sign "À" && !strLt "ÿ" sign) && !Txt.contains "×÷" sign))))))
noncomputable def inWordV (l : List V) : Option (Bool × V) := opt (aSBS l) (fun q => some (true, .bool (inWord q.1 q.2.1 q.2.2))) none
theorem inw_tree (O : Type) (o : O) (L : Addr) (cd : Value) (sign marks : Str) (posix : Bool) : execBK brO (pureI O (locs (fscope (stAt 22))) []) (envOf "_law_in_word" (fscope (stAt 22)) L 740 cd) none 30 o [("sign", .str sign), ("posix", .bool posix), ("marks", .str marks)] (fbody (stAt 22)) (fun o _ fl => some (o, fl)) =
  bif Txt.contains marks sign then some (o, Fl.ret (.bool false)) else
    orK (!strLt sign "a") (!strLt "z" sign) (fun b => some (o, Fl.ret (.bool b))) (orK (!strLt sign "A") (!strLt "Z" sign) (fun b => some (o, Fl.ret (.bool b))) (orK (!strLt sign "0") (!strLt "9" sign) (fun b => some (o, Fl.ret (.bool b)))
      (bif Txt.contains "_~-./*?=" sign then some (o, Fl.ret (.bool true)) else
        bif posix then bif !strLt sign "À" then bif !strLt "ÿ" sign then some (o, Fl.ret (.bool !Txt.contains "×÷" sign)) else some (o, Fl.ret (.bool false)) else some (o, Fl.ret (.bool false)) else some (o, Fl.ret (.bool false))))) := by kernel_rfl
theorem inw_last {β : Type} (u p x y m : Bool) (k : Bool → β) : (bif u then k true else bif p then bif x then bif y then k m else k false else k false else k false) = k (u || (p && ((x && y) && m))) := by
  cases u <;> cases p <;> cases x <;> cases y <;> rfl
theorem inw_run (O : Type) (o : O) (L : Addr) (cd : Value) (sign marks : Str) (posix : Bool) : execBK brO (pureI O (locs (fscope (stAt 22))) []) (envOf "_law_in_word" (fscope (stAt 22)) L 740 cd) none 30 o [("sign", .str sign), ("posix", .bool posix), ("marks", .str marks)] (fbody (stAt 22)) (fun o _ fl => some (o, fl)) =
    some (o, .ret (.bool (inWord sign posix marks))) := by
  rw [inw_tree]
  refine (congrArg (cond (Txt.contains marks sign) (some (o, Fl.ret (.bool false)))) (((congrArg (orK _ _ _) ((congrArg (orK _ _ _) ((congrArg (orK _ _ _) (inw_last _ posix _ _ _ fun b => some (o, Fl.ret (.bool b)))).trans (orK_is _ _ _ _))).trans (orK_is _ _ _ _)))).trans (orK_is _ _ _ _))).trans ?_
  unfold inWord
  cases Txt.contains marks sign <;> rfl
section
variable {prog : Program} {w : World} {P : Params} {p : Program} {loose : List Str} {mean : ExcName → Option Value} {mg mb : Str → Option Value}
theorem inw_pure (d : Nat) : PureC prog w (K02 P) p loose mean mg mb "_law_in_word" (d + 1) inWordV := by
  refine pure_fn (n := 30) (f := 740) (name := "_law_in_word") (dV := .none) (kV := .none) (doc := .none) (pm := .str "law_in0035_02" 1142) (an := none) (ct := .none) (oc := .type "function") (od := none) (osl := #[]) (qual := "_law_in_word") (scope := fscope (stAt 22)) (params := fpar (stAt 22)) (body := fbody (stAt 22)) (cdv := .ref 739) (xs := ["sign", "posix", "marks"]) (names := locs (fscope (stAt 22))) (callT := []) (by kernel_rfl) (by decide) (by kernel_rfl) (by kernel_rfl)
    (fun vs s hl => ?_) (by decide +kernel) (by decide +kernel) (by kernel_rfl) (by kernel_rfl) (by kernel_rfl) (by decide +kernel) (fun L => ?_) (fun L y hy => by cases hy) (fun ds r h => ?_) (fun o L ds r h => ?_)
  · obtain ⟨a, b, c, rfl⟩ := len3 hl
    exact BindsTo.of_eq (by kernel_rfl)
  · have : ∀ x ∈ locs (fscope (stAt 22)), (envOf "_law_in_word" (fscope (stAt 22)) 0 740 (.ref 739)).kindOf x = some .local := by decide +kernel
    exact this
  · obtain ⟨q, h1, _⟩ := opt_of h
    rw [aSBS_is h1]; rfl
  · obtain ⟨q, h1, h⟩ := opt_of h
    obtain ⟨_, e⟩ := Prod.mk.inj (sj h)
    rw [aSBS_is h1, ← e]
    exact inw_run _ o L (.ref 739) _ _ _
end
noncomputable def lenV (l : List V) : Option (Bool × V) := opt (aS l) (fun s => some (strOk s, .int s.length)) none
section
variable {prog : Program} {w : World} {P : Params} {p : Program} {loose : List Str} {mean : ExcName → Option Value} {mg mb : Str → Option Value}
theorem len_pure (d : Nat) : PureC prog w (K02 P) p loose mean mg mb "len" d lenV := by
  intro O C A₀ base outer A env o ρ fz s R h hkind args pos q ds r hr hs hne Q E hw
  refine Call_Name rfl (blt_name R h (v := .builtin "len") (by kernel_rfl) (by kernel_rfl) (by decide) hkind (by decide) ?_)
  cases args with
  | nil => exact absurd rfl hne
  | cons e rest =>
    rw [List.all_cons, Bool.and_eq_true] at hs
    refine callWith_builtin1 (wpAny_mono hw (fun vs s₁ x => ?_) fun _ _ x => x) (star_off hs.1) (plain_off pos hs.2)
    obtain ⟨fz₁, sb, h₁, hv, hq⟩ := x
    obtain ⟨x, h1, hr⟩ := opt_of hr
    obtain ⟨hx, e⟩ := Prod.mk.inj (sj hr)
    rw [aS_is h1] at hv
    rw [← e] at hq
    obtain ⟨v, rfl, xv⟩ := datAll_1 hv
    obtain ⟨t, rfl⟩ := vr_str xv
    have := strOk_le hx
    exact len_str (by lia) (hq fz₁ _ _ (fun _ h => h) (h₁.toks _) (.int _ _))
end
noncomputable abbrev S (l : List Nat) : Str := ⟨l.toArray⟩
theorem len_S (a : List Nat) : (S a).length = a.length := by simp [Str.length]
theorem app_S (a b : List Nat) : S a ++ S b = S (a ++ b) := by
  apply Str.ext'; rw [Str.cps_append]; simp
theorem strEq_S (a b : List Nat) : strEq (S a) (S b) = (a == b) := by simp [strEq]
theorem strLt_S (a b : Nat) : strLt (S [a]) (S [b]) = decide (a < b) := by
  unfold strLt
  show decide ([a] < [b]) = _
  rw [StrLaws.lt_cons_cons, StrLaws.lt_nil_nil]; simp
theorem cont_S (a : List Nat) (c : Nat) : Txt.contains (S a) (S [c]) = decide (c ∈ a) := by
  unfold Txt.contains
  exact StrLaws.found_one (S a) c
theorem item_S {T : List Nat} {k : Nat} (h : k < T.length) : Txt.item (S T) (k : Int) = S [T[k]] := by
  unfold Txt.item Txt.charAt
  rw [StrLaws.seqIndex_nonneg (by lia) (by rw [len_S]; lia)]
  simp [h]
theorem strOk_S {a : List Nat} (h : a.length ≤ 1000000) : strOk (S a) = true := by
  unfold strOk; rw [len_S]; exact Nat.ble_eq_true_of_le h
theorem take_S {T : List Nat} {k : Nat} (h : k ≤ T.length) : Txt.slice (S T) none (some (k : Int)) = S (T.take k) := by
  refine (StrLaws.sliceText_to (x := S T) (j := (k : Int)) ⟨by lia, by simp; lia⟩).trans ?_
  simp
theorem drop_S {T : List Nat} {k : Nat} (h : k ≤ T.length) : Txt.slice (S T) (some (k : Int)) none = S (T.drop k) := by
  refine (StrLaws.sliceText_from (x := S T) (i := (k : Int)) ⟨by lia, by simp; lia⟩).trans ?_
  have : ((T.length : Int) - k).toNat = (T.drop k).length := by rw [List.length_drop]; lia
  simp only [Int.toNat_natCast]
  rw [this, List.take_length]
theorem mid_S {T : List Nat} {i j : Nat} (h : i ≤ j) (h' : j ≤ T.length) : Txt.slice (S T) (some (i : Int)) (some (j : Int)) = S ((T.drop i).take (j - i)) := by
  refine (StrLaws.sliceText_plain (x := S T) (i := (i : Int)) (j := (j : Int)) ⟨by lia, by lia, by simp; lia⟩).trans ?_
  have : ((j : Int) - i).toNat = j - i := by lia
  simp only [Int.toNat_natCast]
  rw [this]
theorem cnt_count (c : Nat) : ∀ T : List Nat, cnt c T = (T.count c : Nat)
  | [] => rfl
  | n :: r => by
    rw [cnt_cons, cnt_count c r, List.count_cons]
    by_cases h : n = c <;> simp [h]; lia
theorem count_S (T : List Nat) (c : Nat) : Txt.count (S T) (S [c]) = (T.count c : Nat) := by
  refine (count_is (S T) c).trans ?_
  exact cnt_count c T
noncomputable def firstAt (c : Nat) : List Nat → Nat → Int
  | [], _ => -1
  | d :: r, k => if d = c then (k : Int) else firstAt c r (k + 1)
theorem firstAt_spec (c : Nat) : ∀ (l : List Nat) (k : Nat), (firstAt c l k = -1 ∧ c ∉ l) ∨ ∃ j, firstAt c l k = ((k + j : Nat) : Int) ∧ l[j]? = some c ∧ c ∉ l.take j
  | [], k => .inl ⟨rfl, by simp⟩
  | d :: r, k => by
    unfold firstAt
    by_cases h : d = c
    · rw [if_pos h]; exact .inr ⟨0, rfl, by simp [h], by simp⟩
    · rw [if_neg h]
      rcases firstAt_spec c r (k + 1) with ⟨h1, h2⟩ | ⟨j, h1, h2, h3⟩
      · exact .inl ⟨h1, by simp [h2]; exact fun e => h e.symm⟩
      · refine .inr ⟨j + 1, by rw [h1]; congr 1; lia, by simpa using h2, ?_⟩
        simp only [List.take_succ_cons, List.mem_cons, not_or]
        exact ⟨fun e => h e.symm, h3⟩
theorem find3_S {T : List Nat} {c k : Nat} (h : k ≤ T.length) : Txt.find3 (S T) (S [c]) (k : Int) = firstAt c (T.drop k) k := by
  have hf : fromIndex (S T).length (k : Int) = k := by
    unfold fromIndex; rw [len_S]; lia
  have gd : ∀ v, (S T).cps.getD v 0 = T.getD v 0 := fun v => by
    simp only [Array.getD, List.getD]
    by_cases hv : v < T.length <;> simp [hv]
  rcases StrLaws.find3_spec (S T) c (k : Int) with ⟨h1, h2⟩ | ⟨j, h1, h2, h3, h4, h5⟩
  · rw [h1]
    rcases firstAt_spec c (T.drop k) k with ⟨g1, _⟩ | ⟨i, g1, g2, _⟩
    · exact g1.symm
    · exfalso
      rw [List.getElem?_drop] at g2
      have hl := (List.getElem?_eq_some_iff.mp g2).1
      refine h2 (k + i) (by rw [hf]; lia) (by rw [len_S]; exact hl) ?_
      rw [gd]; simp [List.getD, g2]
  · rw [hf] at h2 h5
    rw [len_S] at h3
    rw [gd] at h4
    have hj : T[j]? = some c := by rw [List.getElem?_eq_getElem h3]; simp [List.getD, h3] at h4; rw [h4]
    rcases firstAt_spec c (T.drop k) k with ⟨g1, g2⟩ | ⟨i, g1, g2, g3⟩
    · exfalso
      refine g2 (List.mem_of_getElem? (i := j - k) ?_)
      rw [List.getElem?_drop, show k + (j - k) = j by lia]; exact hj
    · rw [h1, g1]
      congr 1
      rw [List.getElem?_drop] at g2
      rcases Nat.lt_trichotomy (k + i) j with hlt | heq | hgt
      · exfalso
        refine h5 (k + i) (by lia) hlt ?_
        rw [gd]; simp [List.getD, g2]
      · exact heq.symm
      · exfalso
        refine g3 (List.mem_of_getElem? (i := j - k) ?_)
        rw [List.getElem?_take_of_lt (by lia), List.getElem?_drop, show k + (j - k) = j by lia]; exact hj
theorem S_of (x : Str) : x = S x.cps.toList := by simp
theorem piece_turn (O : Type) (o : O) (L : Addr) (cd : Value) (text piece mark : Str) (k : Int) : turn (pureI O (locs (fscope (stAt 23))) [("len", lenV)]) (envOf "_law_piece" (fscope (stAt 23)) L 747 cd) 40 (wtest ((fbody (stAt 23))[1]?.getD (.Pass ⟨0, 0, 0, 0⟩))) (wbody ((fbody (stAt 23))[1]?.getD (.Pass ⟨0, 0, 0, 0⟩))) o [("piece", .str piece), ("text", .str text), ("k", .int k), ("mark", .str mark)] =
  bif Prod.fst (strOk text, Dat.int (Nat.cast (Str.length text))) then
    bif decide (k < Nat.cast (Str.length text)) then
      bif strOk text && decide (-Nat.cast (Str.length text) ≤ k) && decide (k < Nat.cast (Str.length text)) then
        bif strEq mark (ofString "\\") then
          some (some (o, [(ofString "sign", Dat.str (Txt.item text k)), (ofString "k", Dat.int (k + 1)), (ofString "piece", Dat.str piece), (ofString "text", Dat.str text), (ofString "k", Dat.int k), (ofString "mark", Dat.str mark)], Fl.ret (Dat.tuple [Dat.str (Txt.item text k), Dat.int (k + 1), Dat.str (ofString "")])))
        else
          bif strEq (Txt.item text k) mark then
            some (some (o, [(ofString "sign", Dat.str (Txt.item text k)), (ofString "k", Dat.int (k + 1)), (ofString "piece", Dat.str piece), (ofString "text", Dat.str text), (ofString "k", Dat.int k), (ofString "mark", Dat.str mark)], Fl.ret (Dat.tuple [Dat.str piece, Dat.int (k + 1), Dat.str (ofString "")])))
          else
            bif strEq (Txt.item text k) (ofString "\\") then
              bif strEq mark (ofString "\"") then
                bif Prod.fst (strOk text, Dat.int (Nat.cast (Str.length text))) then
                  bif k + 1 == Nat.cast (Str.length text) then
                    some
                      (some (o, [(ofString "sign", Dat.str (Txt.item text k)), (ofString "k", Dat.int (k + 1)), (ofString "piece", Dat.str piece), (ofString "text", Dat.str text), (ofString "k", Dat.int k), (ofString "mark", Dat.str mark)], Fl.ret (Dat.tuple [Dat.str piece, Dat.int (k + 1), Dat.str (ofString "No escaped character")])))
                  else
                    bif strOk text && decide (-Nat.cast (Str.length text) ≤ k + 1) && decide (k + 1 < Nat.cast (Str.length text)) then
                      bif Txt.contains (ofString "\"\\") (Txt.item text (k + 1)) then
                        bif strOk text && decide (-Nat.cast (Str.length text) ≤ k + 1) && decide (k + 1 < Nat.cast (Str.length text)) then
                          bif strOk piece && true then
                            some
                              (some
                                (o,
                                  [(ofString "piece", Dat.str (piece ++ Txt.item text (k + 1))), (ofString "sign", Dat.str (Txt.item text (k + 1))), (ofString "k", Dat.int (k + 1 + 1)), (ofString "sign", Dat.str (Txt.item text k)), (ofString "k", Dat.int (k + 1)), (ofString "piece", Dat.str piece),
                                    (ofString "text", Dat.str text), (ofString "k", Dat.int k), (ofString "mark", Dat.str mark)],
                                  Fl.next))
                          else none
                        else none
                      else
                        bif strOk text && decide (-Nat.cast (Str.length text) ≤ k + 1) && decide (k + 1 < Nat.cast (Str.length text)) then
                          bif strOk piece && true then
                            some
                              (some
                                (o,
                                  [(ofString "piece", Dat.str (piece ++ (ofString "\\" ++ Txt.item text (k + 1)))), (ofString "sign", Dat.str (ofString "\\" ++ Txt.item text (k + 1))), (ofString "k", Dat.int (k + 1 + 1)), (ofString "sign", Dat.str (Txt.item text k)), (ofString "k", Dat.int (k + 1)),
                                    (ofString "piece", Dat.str piece), (ofString "text", Dat.str text), (ofString "k", Dat.int k), (ofString "mark", Dat.str mark)],
                                  Fl.next))
                          else none
                        else none
                    else none
                else none
              else
                bif strOk piece && true then some (some (o, [(ofString "piece", Dat.str (piece ++ Txt.item text k)), (ofString "sign", Dat.str (Txt.item text k)), (ofString "k", Dat.int (k + 1)), (ofString "piece", Dat.str piece), (ofString "text", Dat.str text), (ofString "k", Dat.int k), (ofString "mark", Dat.str mark)], Fl.next))
                else none
            else
              bif strOk piece && true then some (some (o, [(ofString "piece", Dat.str (piece ++ Txt.item text k)), (ofString "sign", Dat.str (Txt.item text k)), (ofString "k", Dat.int (k + 1)), (ofString "piece", Dat.str piece), (ofString "text", Dat.str text), (ofString "k", Dat.int k), (ofString "mark", Dat.str mark)], Fl.next))
              else none
      else none
    else some none
  else none := by kernel_rfl
theorem piece_pre (O : Type) (o : O) (L : Addr) (cd : Value) (text mark : Str) (k : Int) : runS (pureI O (locs (fscope (stAt 23))) [("len", lenV)]) (envOf "_law_piece" (fscope (stAt 23)) L 747 cd) 40 o [("text", .str text), ("k", .int k), ("mark", .str mark)] (hdS (fbody (stAt 23)) 0) =
  some (o, [(ofString "piece", Dat.str (ofString "")), (ofString "text", Dat.str text), (ofString "k", Dat.int k), (ofString "mark", Dat.str mark)], Fl.next) := by kernel_rfl
theorem piece_post (O : Type) (o : O) (L : Addr) (cd : Value) (text piece mark : Str) (k : Int) : runB (pureI O (locs (fscope (stAt 23))) [("len", lenV)]) (envOf "_law_piece" (fscope (stAt 23)) L 747 cd) 40 o [("piece", .str piece), ("text", .str text), ("k", .int k), ("mark", .str mark)] ((fbody (stAt 23)).drop 2) =
  bif strEq mark (ofString "\\") then some (o, [(ofString "piece", Dat.str piece), (ofString "text", Dat.str text), (ofString "k", Dat.int k), (ofString "mark", Dat.str mark)], Fl.ret (Dat.tuple [Dat.str piece, Dat.int k, Dat.str (ofString "No escaped character")]))
  else some (o, [(ofString "piece", Dat.str piece), (ofString "text", Dat.str text), (ofString "k", Dat.int k), (ofString "mark", Dat.str mark)], Fl.ret (Dat.tuple [Dat.str piece, Dat.int k, Dat.str (ofString "No closing quotation")])) := by kernel_rfl
noncomputable def pieceL (m : Nat) : List Nat → List Nat → List Nat × List Nat × Nat
  | [], a => (a, [], if m = 92 then 2 else 1)
  | c :: r, a =>
    if m = 92 then ([c], r, 0)
    else if c = m then (a, r, 0)
    else if c = 92 ∧ m = 34 then
      match r with
      | [] => (a, [], 2)
      | d :: r' => pieceL m r' (a ++ (if d = 34 ∨ d = 92 then [d] else [92, d]))
    else pieceL m r (a ++ [c])
noncomputable def faultS : Nat → Str
  | 0 => ""
  | 1 => "No closing quotation"
  | _ => "No escaped character"
noncomputable def pieceV (T : List Nat) (x : List Nat × List Nat × Nat) : V := .tuple [.str (S x.1), .int ((T.length - x.2.1.length : Nat) : Int), .str (faultS x.2.2)]
noncomputable abbrev pI (O : Type) : Ifc O := pureI O (locs (fscope (stAt 23))) [("len", lenV)]
noncomputable abbrev pE (L : Addr) (cd : Value) : Env := envOf "_law_piece" (fscope (stAt 23)) L 747 cd
noncomputable abbrev pW : Stmt := ((fbody (stAt 23))[1]?.getD (.Pass ⟨0, 0, 0, 0⟩))
noncomputable abbrev pR (T a : List Nat) (j m : Nat) : Loc := [("piece", .str (S a)), ("text", .str (S T)), ("k", .int (j : Int)), ("mark", .str (S [m]))]
def PieceEnd {O : Type} (o : O) (T : List Nat) (m : Nat) (x : List Nat × List Nat × Nat) (R : O × Loc × Fl) : Prop :=
  (∃ ρ, R = (o, ρ, .ret (pieceV T x))) ∨ ∃ a, R = (o, pR T a T.length m, .next) ∧ x = (a, [], if m = 92 then 2 else 1)
theorem lit92 : (ofString "\\") = S [92] := by decide +kernel
theorem lit34 : (ofString "\"") = S [34] := by decide +kernel
theorem lit3492 : (ofString "\"\\") = S [34, 92] := by decide +kernel
theorem piece_go {O : Type} (o : O) (L : Addr) (cd : Value) (T : List Nat) (m : Nat) (hT : T.length ≤ 100) : ∀ n (r : List Nat), r.length ≤ n → ∀ j a, j ≤ T.length → T.drop j = r → a.length + 2 * r.length ≤ 1000 →
    ∃ N R, WhileR (pI O) (pE L cd) 40 (wtest pW) (wbody pW) R N o (pR T a j m) ∧ PieceEnd o T m (pieceL m r a) R := by
  have ok : strOk (S T) = true := strOk_S (by lia)
  intro n
  induction n with
  | zero =>
    intro r hr j a hj hd ha
    have : r = [] := List.eq_nil_of_length_eq_zero (by lia)
    subst this
    have hj : j = T.length := by have := congrArg List.length hd; simp at this; lia
    subst hj
    refine ⟨0, _, .stop ?_ rfl, .inr ⟨a, rfl, by unfold pieceL; rfl⟩⟩
    rw [piece_turn]
    simp only [ok, len_S, cond_true, Int.lt_irrefl, decide_false, cond_false]
  | succ n ih =>
    intro r hr j a hj hd ha
    cases r with
    | nil =>
      have hj : j = T.length := by have := congrArg List.length hd; simp at this; lia
      subst hj
      refine ⟨0, _, .stop ?_ rfl, .inr ⟨a, rfl, by unfold pieceL; rfl⟩⟩
      rw [piece_turn]
      simp only [ok, len_S, cond_true, Int.lt_irrefl, decide_false, cond_false]
    | cons c r =>
      have hl : j < T.length := by have := congrArg List.length hd; simp at this; lia
      have hc : T[j] = c := by
        have := List.drop_eq_getElem_cons hl
        rw [hd] at this
        exact (List.cons.inj this).1.symm
      have hd' : T.drop (j + 1) = r := by
        have := List.drop_eq_getElem_cons hl
        rw [hd] at this
        exact (List.cons.inj this).2.symm
      have hi : Txt.item (S T) (j : Int) = S [c] := by rw [item_S hl, hc]
      have h1 : decide ((j : Int) < (T.length : Int)) = true := decide_eq_true (by lia)
      have h2 : decide (-(T.length : Int) ≤ (j : Int)) = true := decide_eq_true (by lia)
      have hk : ((j : Int) + 1) = ((j + 1 : Nat) : Int) := by lia
      have okp : strOk (S a) = true := strOk_S (by simp at ha; lia)
      have hlen : T.length = j + 1 + r.length := by have := congrArg List.length hd'; simp at this; lia
      have tr := piece_turn O o L cd (S T) (S a) (S [m]) (j : Int)
      simp only [ok, okp, len_S, cond_true, h1, h2, hi, Bool.and_self, Bool.true_and, lit92, lit34, lit3492, strEq_S, hk] at tr
      unfold pieceL
      by_cases m92 : m = 92
      · subst m92
        rw [if_pos rfl]
        simp only [beq_self_eq_true, cond_true] at tr
        refine ⟨0, _, .ret tr rfl, .inl ?_⟩
        have e : pieceV T ([c], r, 0) = .tuple [.str (S [c]), .int ((j + 1 : Nat) : Int), .str (ofString "")] := by
          unfold pieceV faultS
          have : T.length - r.length = j + 1 := by lia
          simp only [this]
        rw [e]; exact ⟨_, rfl⟩
      · rw [if_neg m92]
        have e1 : ([m] == [92]) = false := by simp [m92]
        replace tr := tr.trans (cf e1)
        by_cases cm : c = m
        · subst cm
          rw [if_pos rfl]
          simp only [beq_self_eq_true, cond_true] at tr
          refine ⟨0, _, .ret tr rfl, .inl ?_⟩
          have e : pieceV T (a, r, 0) = .tuple [.str (S a), .int ((j + 1 : Nat) : Int), .str (ofString "")] := by
            unfold pieceV faultS
            have : T.length - r.length = j + 1 := by lia
            simp only [this]
          rw [e]; exact ⟨_, rfl⟩
        · rw [if_neg cm]
          have e2 : ([c] == [m]) = false := by simp [cm]
          replace tr := tr.trans (cf e2)
          by_cases esc : c = 92 ∧ m = 34
          · rw [if_pos esc]
            obtain ⟨rfl, rfl⟩ := esc
            simp only [beq_self_eq_true, cond_true] at tr
            cases r with
            | nil =>
              have hz : (((j + 1 : Nat) : Int) == (T.length : Int)) = true := by simp at hlen ⊢; lia
              replace tr := tr.trans (ct hz)
              refine ⟨0, _, .ret tr rfl, .inl ?_⟩
              have e : pieceV T (a, [], 2) = .tuple [.str (S a), .int ((j + 1 : Nat) : Int), .str (ofString "No escaped character")] := by
                unfold pieceV faultS
                have : T.length - ([] : List Nat).length = j + 1 := by simp at hlen ⊢; lia
                simp only [this]
              dsimp only
              rw [e]; exact ⟨_, rfl⟩
            | cons d r' =>
              have hl2 : j + 1 < T.length := by simp at hlen; lia
              have hz : (((j + 1 : Nat) : Int) == (T.length : Int)) = false := by simp; lia
              have hd2 : T[j + 1] = d := by
                have := List.drop_eq_getElem_cons hl2
                rw [hd'] at this
                exact (List.cons.inj this).1.symm
              have hd3 : T.drop (j + 1 + 1) = r' := by
                have := List.drop_eq_getElem_cons hl2
                rw [hd'] at this
                exact (List.cons.inj this).2.symm
              have hi2 : Txt.item (S T) ((j + 1 : Nat) : Int) = S [d] := by rw [item_S hl2, hd2]
              have h3 : decide (((j + 1 : Nat) : Int) < (T.length : Int)) = true := decide_eq_true (by lia)
              have h4 : decide (-(T.length : Int) ≤ ((j + 1 : Nat) : Int)) = true := decide_eq_true (by lia)
              have hk2 : (((j + 1 : Nat) : Int) + 1) = ((j + 1 + 1 : Nat) : Int) := by lia
              simp only [hz, cond_false, h3, h4, hi2, Bool.and_self, cond_true, cont_S, app_S, hk2] at tr
              by_cases hq : d = 34 ∨ d = 92
              · have e3 : decide (d ∈ [34, 92]) = true := by simpa using hq
                replace tr := tr.trans (ct e3)
                obtain ⟨N, R, hw, he⟩ := ih r' (by simp at hr; lia) (j + 1 + 1) (a ++ [d]) (by lia) hd3 (by simp at ha ⊢; lia)
                refine ⟨N + 1, R, .more tr (.inl rfl) (ρ₂ := pR T (a ++ [d]) (j + 1 + 1) 34) ⟨rfl, rfl, rfl, rfl, trivial⟩ hw, ?_⟩
                dsimp only
                rw [if_pos hq]; exact he
              · have e3 : decide (d ∈ [34, 92]) = false := by simpa using hq
                replace tr := tr.trans (cf e3)
                obtain ⟨N, R, hw, he⟩ := ih r' (by simp at hr; lia) (j + 1 + 1) (a ++ [92, d]) (by lia) hd3 (by simp at ha ⊢; lia)
                refine ⟨N + 1, R, .more tr (.inl rfl) (ρ₂ := pR T (a ++ [92, d]) (j + 1 + 1) 34) ⟨rfl, rfl, rfl, rfl, trivial⟩ hw, ?_⟩
                dsimp only
                rw [if_neg hq]; exact he
          · rw [if_neg esc]
            obtain ⟨N, R, hw, he⟩ := ih r (by simp at hr; lia) (j + 1) (a ++ [c]) (by lia) hd' (by simp at ha ⊢; lia)
            by_cases c92 : c = 92
            · have : m ≠ 34 := fun e => esc ⟨c92, e⟩
              have e3 : ([c] == [92]) = true := by simp [c92]
              have e4 : ([m] == [34]) = false := by simp [this]
              simp only [e3, e4, cond_true, cond_false, app_S] at tr
              exact ⟨N + 1, R, .more tr (.inl rfl) (ρ₂ := pR T (a ++ [c]) (j + 1) m) ⟨rfl, rfl, rfl, rfl, trivial⟩ hw, he⟩
            · have e3 : ([c] == [92]) = false := by simp [c92]
              simp only [e3, cond_false, app_S] at tr
              exact ⟨N + 1, R, .more tr (.inl rfl) (ρ₂ := pR T (a ++ [c]) (j + 1) m) ⟨rfl, rfl, rfl, rfl, trivial⟩ hw, he⟩
noncomputable def pieceOf (text : Str) (k : Int) (mark : Str) : Bool × V := (Nat.ble text.length 100 && decide (0 ≤ k) && decide (k ≤ text.length) && mark.length == 1, pieceV text.cps.toList (pieceL (mark.cps.toList.headD 0) (text.cps.toList.drop k.toNat) []))
noncomputable def pieceSp (l : List V) : Option (Bool × V) := opt (aSIS l) (fun q => some (pieceOf q.1 q.2.1 q.2.2)) none
theorem pieceL_le (m : Nat) : ∀ n (r : List Nat), r.length ≤ n → ∀ a, (pieceL m r a).2.1.length ≤ r.length := by
  intro n
  induction n with
  | zero => intro r hr a; have : r = [] := List.eq_nil_of_length_eq_zero (by lia); subst this; unfold pieceL; simp
  | succ n ih =>
    intro r hr a
    cases r with
    | nil => unfold pieceL; simp
    | cons c r =>
      simp only [List.length_cons] at hr ⊢
      unfold pieceL
      split
      · simp
      · split
        · simp
        · split
          · split
            · simp
            · rename_i d r'
              simp only [List.length_cons] at hr ⊢
              have := ih r' (by lia) (a ++ if d = 34 ∨ d = 92 then [d] else [92, d])
              lia
          · have := ih r (by lia) (a ++ [c])
            lia
section
variable {prog : Program} {w : World} {P : Params} {p : Program} {loose : List Str} {mean : ExcName → Option Value} {mg mb : Str → Option Value}
theorem piece_body {O : Type} {C : Cx O} {A : Around} {L : Addr} {cd : Value} (o : O) (IK : IfcOk prog w A C (pE L cd) (pI O) (fun _ _ _ _ => False) 0) (T : List Nat) (hT : T.length ≤ 100) (m j : Nat) (hj : j ≤ T.length) :
    ∃ ρ, BlOk prog w A C (pE L cd) (fun _ _ _ _ => False) o [("text", .str (S T)), ("k", .int (j : Int)), ("mark", .str (S [m]))] (fbody (stAt 23)) (o, ρ, .ret (pieceV T (pieceL m (T.drop j) []))) := by
  obtain ⟨N, R, hw, he⟩ := piece_go o L cd T m hT _ (T.drop j) (Nat.le_refl _) j [] hj rfl (by simp; lia)
  have hb : fbody (stAt 23) = hdS (fbody (stAt 23)) 0 :: (.While (wtest pW) (wbody pW) [] ⟨738, 4, 748, 28⟩ :: (fbody (stAt 23)).drop 2) := by kernel_rfl
  have h1 := runS_ok IK (piece_pre O o L cd (S T) (S [m]) (j : Int))
  have hX : ∀ (k : Nat) (fz : Led) (s : Shared) (E : Value → Shared → Prop), (fun (_ : Nat) (_ : Led) (_ : Shared) (_ : Value → Shared → Prop) => False) k fz s E → (fun (_ : Nat) (_ : Led) (_ : Shared) (_ : Value → Shared → Prop) => False) k fz s (notedBy (model prog w) A (pE L cd) (cameBackBy (model prog w) A (pE L cd) E)) := fun _ _ _ _ h => h
  have h2 := while_ok (p := ⟨738, 4, 748, 28⟩) IK hX hw
  rw [hb]
  rcases he with ⟨ρ, rfl⟩ | ⟨a, rfl, e⟩
  · exact ⟨ρ, bl_next h1 (bl_stop h2 (fun _ _ e => by cases e))⟩
  · have h3 := piece_post O o L cd (S T) (S a) (S [m]) (T.length : Int)
    rw [e]
    simp only [lit92, strEq_S] at h3
    by_cases hm : m = 92
    · subst hm
      simp only [beq_self_eq_true, cond_true] at h3
      exact ⟨_, bl_next h1 (bl_next h2 (run_ok IK h3))⟩
    · have e1 : ([m] == [92]) = false := by simp [hm]
      replace h3 := h3.trans (cf e1)
      rw [if_neg hm]
      exact ⟨_, bl_next h1 (bl_next h2 (run_ok IK h3))⟩
theorem piece_pure (d : Nat) : PureC prog w (K02 P) p loose mean mg mb "_law_piece" (d + 1) pieceSp := by
  refine pure_fnB (f := 747) (name := "_law_piece") (dV := .none) (kV := .none) (doc := .none) (pm := .str "law_in0035_02" 1142) (an := none) (ct := .none) (oc := .type "function") (od := none) (osl := #[]) (qual := "_law_piece") (scope := fscope (stAt 23)) (params := fpar (stAt 23)) (body := fbody (stAt 23)) (cdv := .ref 746) (xs := ["text", "k", "mark"]) (names := locs (fscope (stAt 23))) (callT := [("len", lenV)]) (by kernel_rfl) (by decide) (by kernel_rfl) (by kernel_rfl)
    (fun vs s hl => ?_) (by decide +kernel) (by decide +kernel) (by kernel_rfl) (by kernel_rfl) (by kernel_rfl) (by decide +kernel) (fun L => ?_) (fun L y hy => ?_) (fun ds r h => ?_) (fun {O C A L} o ds r h IK => ?_)
  · obtain ⟨a, b, c, rfl⟩ := len3 hl
    exact BindsTo.of_eq (by kernel_rfl)
  · have : ∀ x ∈ locs (fscope (stAt 23)), (envOf "_law_piece" (fscope (stAt 23)) 0 747 (.ref 746)).kindOf x = some .local := by decide +kernel
    exact this
  · cases hy with
    | head => exact ⟨len_pure _, by kernel_rfl⟩
    | tail _ h => cases h
  · obtain ⟨q, h1, _⟩ := opt_of h
    rw [aSIS_is h1]; rfl
  · obtain ⟨⟨text, k, mark⟩, h0, h⟩ := opt_of h
    · obtain ⟨h1, e0⟩ := Prod.mk.inj (sj h)
      rw [aSIS_is h0, ← e0]
      clear h h0 e0
      simp only [Bool.and_eq_true, decide_eq_true_eq, beq_iff_eq] at h1
      obtain ⟨⟨⟨h1, h2⟩, h3⟩, h4⟩ := h1
      obtain ⟨⟨T⟩⟩ := text
      obtain ⟨⟨M⟩⟩ := mark
      obtain ⟨m, rfl⟩ : ∃ m, M = [m] := List.length_eq_one_iff.mp h4
      obtain ⟨j, rfl⟩ : ∃ j : Nat, k = j := ⟨k.toNat, by lia⟩
      have hl : (S T).length = T.length := len_S T
      exact piece_body o IK T (by have := Nat.le_of_ble_eq_true h1; rw [← hl]; exact this) m j (by have : (j : Int) ≤ ((S T).length : Int) := h3; rw [hl] at this; lia)
end
noncomputable def tellT : List (Str × (List V → Option (Bool × V))) := [("len", lenV), ("_law_in_word", inWordV), ("_law_piece", pieceSp)]
noncomputable def tellI (O : Type) : Ifc (O × Option (List V)) :=
  { names := (locs (fscope (stAt 24))).filter fun x => !(x == "told"), self := "", attr := fun _ _ => none, setA := fun _ _ _ => none, callF := fun _ f ds => (tellT.lookup f).bind fun g => g ds, prim := fun _ _ _ => none,
    push := fun o x v => gate (x == "told") (opt o.2 (fun t => some (Nat.ble t.length 1000, (o.1, some (t ++ [v])))) none) none,
    give := fun o x => gate (x == "told") (opt o.2 (fun t => some ((o.1, none), .list t)) none) none }
noncomputable abbrev tE (L : Addr) (cd : Value) : Env := envOf "_law_tell" (fscope (stAt 24)) L 754 cd
noncomputable abbrev tW : Stmt := hdS (fbody (stAt 24)) 1
noncomputable abbrev tR (text token kind marks : Str) (k late : Int) (posix : Bool) : Loc := [("token", .str token), ("kind", .str kind), ("k", .int k), ("late", .int late), ("text", .str text), ("posix", .bool posix), ("marks", .str marks)]
noncomputable abbrev kv (x : Str) (v : V) : Str × V := (x, v)
noncomputable abbrev t5 (grown : Bool) (line : Int) (sign : Str) (ρ : Loc) : Loc := ("grown", .bool grown) :: ("line", .int line) :: ("sign", .str sign) :: ρ
theorem tell_0 (O : Type) (o : O) (told : List V) (L : Addr) (cd : Value) (text token kind marks : Str) (k late : Int) (posix : Bool) : runS (tellI O) (tE L cd) 60 (o, some told) [("token", .str token), ("kind", .str kind), ("k", .int k), ("late", .int late), ("text", .str text), ("posix", .bool posix), ("marks", .str marks)] (hdS (wbody tW) 0) =
 bif strOk text && decide (-Nat.cast (Str.length text) ≤ k) && decide (k < Nat.cast (Str.length text)) then
 some ((o, some told), (kv "sign" (.str (Txt.item text k)) :: kv "k" (.int (k + 1)) :: tR text token kind marks k late posix), Fl.next)
 else none := by kernel_rfl
theorem tell_1t (O : Type) (o : O) (told : List V) (L : Addr) (cd : Value) (sign text token kind marks : Str) (k late : Int) : runS (tellI O) (tE L cd) 60 (o, some told) [("sign", .str sign), ("token", .str token), ("kind", .str kind), ("k", .int k), ("late", .int late), ("text", .str text), ("posix", .bool true), ("marks", .str marks)] (hdS (wbody tW) 1) =
 bif strEq sign (ofString "#") then
 bif Txt.find3 text (ofString "\n") k + 1 == 0 then
 bif Prod.fst (strOk text, Dat.int (Nat.cast (Str.length text))) then
 some ((o, some told), (kv "k" (.int (Nat.cast (Str.length text))) :: kv "late" (.int 1) :: kv "k" (.int (Txt.find3 text (ofString "\n") k + 1)) :: kv "sign" (.str sign) :: tR text token kind marks k late true), Fl.next)
 else none
 else
 some ((o, some told), (kv "k" (.int (Txt.find3 text (ofString "\n") k + 1)) :: kv "sign" (.str sign) :: tR text token kind marks k late true), Fl.next)
 else some ((o, some told), (kv "sign" (.str sign) :: tR text token kind marks k late true), Fl.next) := by kernel_rfl
theorem tell_1f (O : Type) (o : O) (told : List V) (L : Addr) (cd : Value) (sign text token kind marks : Str) (k late : Int) : runS (tellI O) (tE L cd) 60 (o, some told) [("sign", .str sign), ("token", .str token), ("kind", .str kind), ("k", .int k), ("late", .int late), ("text", .str text), ("posix", .bool false), ("marks", .str marks)] (hdS (wbody tW) 1) =
 bif strEq sign (ofString "#") then
 bif Txt.find3 text (ofString "\n") k + 1 == 0 then
 bif Prod.fst (strOk text, Dat.int (Nat.cast (Str.length text))) then
 some ((o, some told), (kv "k" (.int (Nat.cast (Str.length text))) :: kv "late" (.int 1) :: kv "k" (.int (Txt.find3 text (ofString "\n") k + 1)) :: kv "sign" (.str sign) :: tR text token kind marks k late false),
 Fl.cont)
 else none
 else
 some ((o, some told), (kv "k" (.int (Txt.find3 text (ofString "\n") k + 1)) :: kv "sign" (.str sign) :: tR text token kind marks k late false),
 Fl.cont)
 else some ((o, some told), (kv "sign" (.str sign) :: tR text token kind marks k late false), Fl.next) := by kernel_rfl
theorem tell_2 (O : Type) (o : O) (told : List V) (L : Addr) (cd : Value) (sign text token kind marks : Str) (k late : Int) (posix : Bool) : runS (tellI O) (tE L cd) 60 (o, some told) [("sign", .str sign), ("token", .str token), ("kind", .str kind), ("k", .int k), ("late", .int late), ("text", .str text), ("posix", .bool posix), ("marks", .str marks)] (hdS (wbody tW) 2) =
 bif strOk text then
 some ((o, some told), (kv "line" (.int (1 + Txt.count (Txt.slice text none (some k)) (ofString "\n") + late)) :: kv "sign" (.str sign) :: tR text token kind marks k late posix), Fl.next)
 else none := by kernel_rfl
theorem tell_3t (O : Type) (o : O) (told : List V) (L : Addr) (cd : Value) (sign text token kind marks : Str) (k late line : Int) : runS (tellI O) (tE L cd) 60 (o, some told) [("line", .int line), ("sign", .str sign), ("token", .str token), ("kind", .str kind), ("k", .int k), ("late", .int late), ("text", .str text), ("posix", .bool true), ("marks", .str marks)] (hdS (wbody tW) 3) =
 bif inWord sign true marks then
 some ((o, some told), (kv "grown" (.bool true) :: kv "line" (.int line) :: kv "sign" (.str sign) :: tR text token kind marks k late true), Fl.next)
 else
 some ((o, some told), (kv "grown" (.bool (Txt.contains (ofString "'\"\\") sign)) :: kv "line" (.int line) :: kv "sign" (.str sign) :: tR text token kind marks k late true), Fl.next) := by kernel_rfl
theorem tell_3f (O : Type) (o : O) (told : List V) (L : Addr) (cd : Value) (sign text token kind marks : Str) (k late line : Int) : runS (tellI O) (tE L cd) 60 (o, some told) [("line", .int line), ("sign", .str sign), ("token", .str token), ("kind", .str kind), ("k", .int k), ("late", .int late), ("text", .str text), ("posix", .bool false), ("marks", .str marks)] (hdS (wbody tW) 3) =
 bif inWord sign false marks then
 some ((o, some told), (kv "grown" (.bool true) :: kv "line" (.int line) :: kv "sign" (.str sign) :: tR text token kind marks k late false), Fl.next)
 else
 some ((o, some told), (kv "grown" (.bool (Txt.contains (ofString "'\"") sign)) :: kv "line" (.int line) :: kv "sign" (.str sign) :: tR text token kind marks k late false), Fl.next) := by kernel_rfl
theorem tell_4 (O : Type) (o : O) (told : List V) (L : Addr) (cd : Value) (sign text token kind marks : Str) (k late line : Int) (posix grown : Bool) : runS (tellI O) (tE L cd) 60 (o, some told) [("grown", .bool grown), ("line", .int line), ("sign", .str sign), ("token", .str token), ("kind", .str kind), ("k", .int k), ("late", .int late), ("text", .str text), ("posix", .bool posix), ("marks", .str marks)] (hdS (wbody tW) 4) =
 bif strEq kind (ofString "run") then
 some ((o, some told), (kv "grown" (.bool (Txt.contains marks sign)) :: t5 grown line sign (tR text token kind marks k late posix)), Fl.next)
 else
 some ((o, some told), (t5 grown line sign (tR text token kind marks k late posix)), Fl.next) := by kernel_rfl
theorem tell_5nt (O : Type) (o : O) (told : List V) (L : Addr) (cd : Value) (sign text token marks : Str) (k late line : Int) (grown : Bool) : runS (tellI O) (tE L cd) 60 (o, some told) [("grown", .bool grown), ("line", .int line), ("sign", .str sign), ("token", .str token), ("kind", .str ""), ("k", .int k), ("late", .int late), ("text", .str text), ("posix", .bool true), ("marks", .str marks)] (hdS (wbody tW) 5) =
 bif Txt.contains (ofString " \t\x0d\n#") sign then
 some ((o, some told), (kv "kind" (.str (ofString "")) :: kv "token" (.str (ofString "")) :: t5 grown line sign (tR text token (ofString "") marks k late true)), Fl.next)
 else
 bif Txt.contains marks sign then
 bif !strEq sign (ofString "\\") then
 bif strOk token && strOk sign then
 some ((o, some told), (kv "token" (.str (token ++ sign)) :: kv "kind" (.str (ofString "run")) :: t5 grown line sign (tR text token (ofString "") marks k late true)), Fl.next)
 else none
 else
 bif Txt.contains (ofString "'\"\\") sign then
 bif
 Prod.fst
 (Nat.ble (Str.length text) 100 && decide (0 ≤ k) && decide (k ≤ Nat.cast (Str.length text)) && Str.length sign == 1,
 Dat.tuple
 [Dat.str (S (Prod.fst (pieceL (List.headD (Array.toList (Str.cps sign)) 0) (List.drop (Int.toNat k) (Array.toList (Str.cps text))) []))),
 Dat.int (Nat.cast (List.length (Array.toList (Str.cps text)) - List.length (Prod.fst (Prod.snd (pieceL (List.headD (Array.toList (Str.cps sign)) 0) (List.drop (Int.toNat k) (Array.toList (Str.cps text))) []))))),
 Dat.str (faultS (Prod.snd (Prod.snd (pieceL (List.headD (Array.toList (Str.cps sign)) 0) (List.drop (Int.toNat k) (Array.toList (Str.cps text))) []))))]) then
 bif strOk token && strOk (S (Prod.fst (pieceL (List.headD (Array.toList (Str.cps sign)) 0) (List.drop (Int.toNat k) (Array.toList (Str.cps text))) []))) then
 bif !strEq (faultS (Prod.snd (Prod.snd (pieceL (List.headD (Array.toList (Str.cps sign)) 0) (List.drop (Int.toNat k) (Array.toList (Str.cps text))) [])))) (ofString "") then
 bif strEq (faultS (Prod.snd (Prod.snd (pieceL (List.headD (Array.toList (Str.cps sign)) 0) (List.drop (Int.toNat k) (Array.toList (Str.cps text))) [])))) (ofString "No escaped character") then
 some
 ((Prod.fst (o, some told), none),
 (kv "token" (.str (token ++ S (Prod.fst (pieceL (List.headD (Array.toList (Str.cps sign)) 0) (List.drop (Int.toNat k) (Array.toList (Str.cps text))) [])))) :: kv "kind" (.str (ofString "word")) :: kv "fault" (.str (faultS (Prod.snd (Prod.snd (pieceL (List.headD (Array.toList (Str.cps sign)) 0) (List.drop (Int.toNat k) (Array.toList (Str.cps text))) []))))) :: kv "k" (.int (Nat.cast (List.length (Array.toList (Str.cps text)) - List.length (Prod.fst (Prod.snd (pieceL (List.headD (Array.toList (Str.cps sign)) 0) (List.drop (Int.toNat k) (Array.toList (Str.cps text))) [])))))) :: kv "piece" (.str (S (Prod.fst (pieceL (List.headD (Array.toList (Str.cps sign)) 0) (List.drop (Int.toNat k) (Array.toList (Str.cps text))) [])))) :: t5 grown line sign (tR text token (ofString "") marks k late true)),
 Fl.ret
 (Dat.tuple
 [Dat.list told,
 Dat.tuple
 [Dat.str (faultS (Prod.snd (Prod.snd (pieceL (List.headD (Array.toList (Str.cps sign)) 0) (List.drop (Int.toNat k) (Array.toList (Str.cps text))) [])))), Dat.str (ofString "\\"), Dat.str (token ++ S (Prod.fst (pieceL (List.headD (Array.toList (Str.cps sign)) 0) (List.drop (Int.toNat k) (Array.toList (Str.cps text))) []))),
 Dat.int (1 + Txt.count text (ofString "\n"))]]))
 else
 some
 ((Prod.fst (o, some told), none),
 (kv "token" (.str (token ++ S (Prod.fst (pieceL (List.headD (Array.toList (Str.cps sign)) 0) (List.drop (Int.toNat k) (Array.toList (Str.cps text))) [])))) :: kv "kind" (.str (ofString "word")) :: kv "fault" (.str (faultS (Prod.snd (Prod.snd (pieceL (List.headD (Array.toList (Str.cps sign)) 0) (List.drop (Int.toNat k) (Array.toList (Str.cps text))) []))))) :: kv "k" (.int (Nat.cast (List.length (Array.toList (Str.cps text)) - List.length (Prod.fst (Prod.snd (pieceL (List.headD (Array.toList (Str.cps sign)) 0) (List.drop (Int.toNat k) (Array.toList (Str.cps text))) [])))))) :: kv "piece" (.str (S (Prod.fst (pieceL (List.headD (Array.toList (Str.cps sign)) 0) (List.drop (Int.toNat k) (Array.toList (Str.cps text))) [])))) :: t5 grown line sign (tR text token (ofString "") marks k late true)),
 Fl.ret
 (Dat.tuple
 [Dat.list told,
 Dat.tuple
 [Dat.str (faultS (Prod.snd (Prod.snd (pieceL (List.headD (Array.toList (Str.cps sign)) 0) (List.drop (Int.toNat k) (Array.toList (Str.cps text))) [])))), Dat.str sign, Dat.str (token ++ S (Prod.fst (pieceL (List.headD (Array.toList (Str.cps sign)) 0) (List.drop (Int.toNat k) (Array.toList (Str.cps text))) []))),
 Dat.int (1 + Txt.count text (ofString "\n"))]]))
 else
 some ((o, some told), (kv "token" (.str (token ++ S (Prod.fst (pieceL (List.headD (Array.toList (Str.cps sign)) 0) (List.drop (Int.toNat k) (Array.toList (Str.cps text))) [])))) :: kv "kind" (.str (ofString "word")) :: kv "fault" (.str (faultS (Prod.snd (Prod.snd (pieceL (List.headD (Array.toList (Str.cps sign)) 0) (List.drop (Int.toNat k) (Array.toList (Str.cps text))) []))))) :: kv "k" (.int (Nat.cast (List.length (Array.toList (Str.cps text)) - List.length (Prod.fst (Prod.snd (pieceL (List.headD (Array.toList (Str.cps sign)) 0) (List.drop (Int.toNat k) (Array.toList (Str.cps text))) [])))))) :: kv "piece" (.str (S (Prod.fst (pieceL (List.headD (Array.toList (Str.cps sign)) 0) (List.drop (Int.toNat k) (Array.toList (Str.cps text))) [])))) :: t5 grown line sign (tR text token (ofString "") marks k late true)), Fl.next)
 else none
 else none
 else
 bif Txt.contains (ofString "'\"") sign then
 bif decide (Txt.find3 text sign k < 0) then
 bif strOk text then
 some
 ((Prod.fst (o, some told), none),
 (kv "last" (.int (Txt.find3 text sign k)) :: t5 grown line sign (tR text token (ofString "") marks k late true)),
 Fl.ret (Dat.tuple [Dat.list told, Dat.tuple [Dat.str (ofString "No closing quotation"), Dat.str sign, Dat.str (Txt.slice text (some (k - 1)) none), Dat.int (1 + Txt.count text (ofString "\n"))]]))
 else none
 else
 bif strOk text then
 bif strOk text then
 bif Prod.fst (Nat.ble (List.length told) 1000, Prod.fst (o, some told), some (told ++ [Dat.tuple [Dat.str (Txt.slice text (some (k - 1)) (some (Txt.find3 text sign k + 1))), Dat.int (1 + Txt.count (Txt.slice text none (some (Txt.find3 text sign k))) (ofString "\n"))]])) then
 some
 ((Prod.fst (o, some told), some (told ++ [Dat.tuple [Dat.str (Txt.slice text (some (k - 1)) (some (Txt.find3 text sign k + 1))), Dat.int (1 + Txt.count (Txt.slice text none (some (Txt.find3 text sign k))) (ofString "\n"))]])),
 (kv "k" (.int (Txt.find3 text sign k + 1)) :: kv "last" (.int (Txt.find3 text sign k)) :: t5 grown line sign (tR text token (ofString "") marks k late true)), Fl.next)
 else none
 else none
 else none
 else
 bif grown then
 bif strOk token && strOk sign then
 some ((o, some told), (kv "token" (.str (token ++ sign)) :: kv "kind" (.str (ofString "word")) :: t5 grown line sign (tR text token (ofString "") marks k late true)), Fl.next)
 else none
 else
 bif Prod.fst (Nat.ble (List.length told) 1000, Prod.fst (o, some told), some (told ++ [Dat.tuple [Dat.str sign, Dat.int line]])) then
 some
 ((Prod.fst (o, some told), some (told ++ [Dat.tuple [Dat.str sign, Dat.int line]])),
 (t5 grown line sign (tR text token (ofString "") marks k late true)), Fl.next)
 else none
 else
 bif Txt.contains (ofString "'\"\\") sign then
 bif
 Prod.fst
 (Nat.ble (Str.length text) 100 && decide (0 ≤ k) && decide (k ≤ Nat.cast (Str.length text)) && Str.length sign == 1,
 Dat.tuple
 [Dat.str (S (Prod.fst (pieceL (List.headD (Array.toList (Str.cps sign)) 0) (List.drop (Int.toNat k) (Array.toList (Str.cps text))) []))),
 Dat.int (Nat.cast (List.length (Array.toList (Str.cps text)) - List.length (Prod.fst (Prod.snd (pieceL (List.headD (Array.toList (Str.cps sign)) 0) (List.drop (Int.toNat k) (Array.toList (Str.cps text))) []))))),
 Dat.str (faultS (Prod.snd (Prod.snd (pieceL (List.headD (Array.toList (Str.cps sign)) 0) (List.drop (Int.toNat k) (Array.toList (Str.cps text))) []))))]) then
 bif strOk token && strOk (S (Prod.fst (pieceL (List.headD (Array.toList (Str.cps sign)) 0) (List.drop (Int.toNat k) (Array.toList (Str.cps text))) []))) then
 bif !strEq (faultS (Prod.snd (Prod.snd (pieceL (List.headD (Array.toList (Str.cps sign)) 0) (List.drop (Int.toNat k) (Array.toList (Str.cps text))) [])))) (ofString "") then
 bif strEq (faultS (Prod.snd (Prod.snd (pieceL (List.headD (Array.toList (Str.cps sign)) 0) (List.drop (Int.toNat k) (Array.toList (Str.cps text))) [])))) (ofString "No escaped character") then
 some
 ((Prod.fst (o, some told), none),
 (kv "token" (.str (token ++ S (Prod.fst (pieceL (List.headD (Array.toList (Str.cps sign)) 0) (List.drop (Int.toNat k) (Array.toList (Str.cps text))) [])))) :: kv "kind" (.str (ofString "word")) :: kv "fault" (.str (faultS (Prod.snd (Prod.snd (pieceL (List.headD (Array.toList (Str.cps sign)) 0) (List.drop (Int.toNat k) (Array.toList (Str.cps text))) []))))) :: kv "k" (.int (Nat.cast (List.length (Array.toList (Str.cps text)) - List.length (Prod.fst (Prod.snd (pieceL (List.headD (Array.toList (Str.cps sign)) 0) (List.drop (Int.toNat k) (Array.toList (Str.cps text))) [])))))) :: kv "piece" (.str (S (Prod.fst (pieceL (List.headD (Array.toList (Str.cps sign)) 0) (List.drop (Int.toNat k) (Array.toList (Str.cps text))) [])))) :: t5 grown line sign (tR text token (ofString "") marks k late true)),
 Fl.ret
 (Dat.tuple
 [Dat.list told,
 Dat.tuple
 [Dat.str (faultS (Prod.snd (Prod.snd (pieceL (List.headD (Array.toList (Str.cps sign)) 0) (List.drop (Int.toNat k) (Array.toList (Str.cps text))) [])))), Dat.str (ofString "\\"), Dat.str (token ++ S (Prod.fst (pieceL (List.headD (Array.toList (Str.cps sign)) 0) (List.drop (Int.toNat k) (Array.toList (Str.cps text))) []))),
 Dat.int (1 + Txt.count text (ofString "\n"))]]))
 else
 some
 ((Prod.fst (o, some told), none),
 (kv "token" (.str (token ++ S (Prod.fst (pieceL (List.headD (Array.toList (Str.cps sign)) 0) (List.drop (Int.toNat k) (Array.toList (Str.cps text))) [])))) :: kv "kind" (.str (ofString "word")) :: kv "fault" (.str (faultS (Prod.snd (Prod.snd (pieceL (List.headD (Array.toList (Str.cps sign)) 0) (List.drop (Int.toNat k) (Array.toList (Str.cps text))) []))))) :: kv "k" (.int (Nat.cast (List.length (Array.toList (Str.cps text)) - List.length (Prod.fst (Prod.snd (pieceL (List.headD (Array.toList (Str.cps sign)) 0) (List.drop (Int.toNat k) (Array.toList (Str.cps text))) [])))))) :: kv "piece" (.str (S (Prod.fst (pieceL (List.headD (Array.toList (Str.cps sign)) 0) (List.drop (Int.toNat k) (Array.toList (Str.cps text))) [])))) :: t5 grown line sign (tR text token (ofString "") marks k late true)),
 Fl.ret
 (Dat.tuple
 [Dat.list told,
 Dat.tuple
 [Dat.str (faultS (Prod.snd (Prod.snd (pieceL (List.headD (Array.toList (Str.cps sign)) 0) (List.drop (Int.toNat k) (Array.toList (Str.cps text))) [])))), Dat.str sign, Dat.str (token ++ S (Prod.fst (pieceL (List.headD (Array.toList (Str.cps sign)) 0) (List.drop (Int.toNat k) (Array.toList (Str.cps text))) []))),
 Dat.int (1 + Txt.count text (ofString "\n"))]]))
 else
 some ((o, some told), (kv "token" (.str (token ++ S (Prod.fst (pieceL (List.headD (Array.toList (Str.cps sign)) 0) (List.drop (Int.toNat k) (Array.toList (Str.cps text))) [])))) :: kv "kind" (.str (ofString "word")) :: kv "fault" (.str (faultS (Prod.snd (Prod.snd (pieceL (List.headD (Array.toList (Str.cps sign)) 0) (List.drop (Int.toNat k) (Array.toList (Str.cps text))) []))))) :: kv "k" (.int (Nat.cast (List.length (Array.toList (Str.cps text)) - List.length (Prod.fst (Prod.snd (pieceL (List.headD (Array.toList (Str.cps sign)) 0) (List.drop (Int.toNat k) (Array.toList (Str.cps text))) [])))))) :: kv "piece" (.str (S (Prod.fst (pieceL (List.headD (Array.toList (Str.cps sign)) 0) (List.drop (Int.toNat k) (Array.toList (Str.cps text))) [])))) :: t5 grown line sign (tR text token (ofString "") marks k late true)), Fl.next)
 else none
 else none
 else
 bif Txt.contains (ofString "'\"") sign then
 bif decide (Txt.find3 text sign k < 0) then
 bif strOk text then
 some
 ((Prod.fst (o, some told), none),
 (kv "last" (.int (Txt.find3 text sign k)) :: t5 grown line sign (tR text token (ofString "") marks k late true)),
 Fl.ret (Dat.tuple [Dat.list told, Dat.tuple [Dat.str (ofString "No closing quotation"), Dat.str sign, Dat.str (Txt.slice text (some (k - 1)) none), Dat.int (1 + Txt.count text (ofString "\n"))]]))
 else none
 else
 bif strOk text then
 bif strOk text then
 bif Prod.fst (Nat.ble (List.length told) 1000, Prod.fst (o, some told), some (told ++ [Dat.tuple [Dat.str (Txt.slice text (some (k - 1)) (some (Txt.find3 text sign k + 1))), Dat.int (1 + Txt.count (Txt.slice text none (some (Txt.find3 text sign k))) (ofString "\n"))]])) then
 some
 ((Prod.fst (o, some told), some (told ++ [Dat.tuple [Dat.str (Txt.slice text (some (k - 1)) (some (Txt.find3 text sign k + 1))), Dat.int (1 + Txt.count (Txt.slice text none (some (Txt.find3 text sign k))) (ofString "\n"))]])),
 (kv "k" (.int (Txt.find3 text sign k + 1)) :: kv "last" (.int (Txt.find3 text sign k)) :: t5 grown line sign (tR text token (ofString "") marks k late true)), Fl.next)
 else none
 else none
 else none
 else
 bif grown then
 bif strOk token && strOk sign then
 some ((o, some told), (kv "token" (.str (token ++ sign)) :: kv "kind" (.str (ofString "word")) :: t5 grown line sign (tR text token (ofString "") marks k late true)), Fl.next)
 else none
 else
 bif Prod.fst (Nat.ble (List.length told) 1000, Prod.fst (o, some told), some (told ++ [Dat.tuple [Dat.str sign, Dat.int line]])) then
 some
 ((Prod.fst (o, some told), some (told ++ [Dat.tuple [Dat.str sign, Dat.int line]])),
 (t5 grown line sign (tR text token (ofString "") marks k late true)), Fl.next)
 else none := by kernel_rfl
theorem tell_5nf (O : Type) (o : O) (told : List V) (L : Addr) (cd : Value) (sign text token marks : Str) (k late line : Int) (grown : Bool) : runS (tellI O) (tE L cd) 60 (o, some told) [("grown", .bool grown), ("line", .int line), ("sign", .str sign), ("token", .str token), ("kind", .str ""), ("k", .int k), ("late", .int late), ("text", .str text), ("posix", .bool false), ("marks", .str marks)] (hdS (wbody tW) 5) =
 bif Txt.contains (ofString " \t\x0d\n#") sign then
 some ((o, some told), (kv "kind" (.str (ofString "")) :: kv "token" (.str (ofString "")) :: t5 grown line sign (tR text token (ofString "") marks k late false)), Fl.next)
 else
 bif Txt.contains marks sign then
 bif strOk token && strOk sign then
 some ((o, some told), (kv "token" (.str (token ++ sign)) :: kv "kind" (.str (ofString "run")) :: t5 grown line sign (tR text token (ofString "") marks k late false)), Fl.next)
 else none
 else
 bif Txt.contains (ofString "'\"") sign then
 bif decide (Txt.find3 text sign k < 0) then
 bif strOk text then
 some
 ((Prod.fst (o, some told), none),
 (kv "last" (.int (Txt.find3 text sign k)) :: t5 grown line sign (tR text token (ofString "") marks k late false)),
 Fl.ret (Dat.tuple [Dat.list told, Dat.tuple [Dat.str (ofString "No closing quotation"), Dat.str sign, Dat.str (Txt.slice text (some (k - 1)) none), Dat.int (1 + Txt.count text (ofString "\n"))]]))
 else none
 else
 bif strOk text then
 bif strOk text then
 bif Prod.fst (Nat.ble (List.length told) 1000, Prod.fst (o, some told), some (told ++ [Dat.tuple [Dat.str (Txt.slice text (some (k - 1)) (some (Txt.find3 text sign k + 1))), Dat.int (1 + Txt.count (Txt.slice text none (some (Txt.find3 text sign k))) (ofString "\n"))]])) then
 some
 ((Prod.fst (o, some told), some (told ++ [Dat.tuple [Dat.str (Txt.slice text (some (k - 1)) (some (Txt.find3 text sign k + 1))), Dat.int (1 + Txt.count (Txt.slice text none (some (Txt.find3 text sign k))) (ofString "\n"))]])),
 (kv "k" (.int (Txt.find3 text sign k + 1)) :: kv "last" (.int (Txt.find3 text sign k)) :: t5 grown line sign (tR text token (ofString "") marks k late false)), Fl.next)
 else none
 else none
 else none
 else
 bif grown then
 bif strOk token && strOk sign then
 some ((o, some told), (kv "token" (.str (token ++ sign)) :: kv "kind" (.str (ofString "word")) :: t5 grown line sign (tR text token (ofString "") marks k late false)), Fl.next)
 else none
 else
 bif Prod.fst (Nat.ble (List.length told) 1000, Prod.fst (o, some told), some (told ++ [Dat.tuple [Dat.str sign, Dat.int line]])) then
 some
 ((Prod.fst (o, some told), some (told ++ [Dat.tuple [Dat.str sign, Dat.int line]])),
 (t5 grown line sign (tR text token (ofString "") marks k late false)), Fl.next)
 else none := by kernel_rfl
theorem tell_5rt (O : Type) (o : O) (told : List V) (L : Addr) (cd : Value) (sign text token marks : Str) (k late line : Int) (grown : Bool) : runS (tellI O) (tE L cd) 60 (o, some told) [("grown", .bool grown), ("line", .int line), ("sign", .str sign), ("token", .str token), ("kind", .str "run"), ("k", .int k), ("late", .int late), ("text", .str text), ("posix", .bool true), ("marks", .str marks)] (hdS (wbody tW) 5) =
 bif Txt.contains (ofString " \t\x0d\n#") sign then
 bif Prod.fst (Nat.ble (List.length told) 1000, Prod.fst (o, some told), some (told ++ [Dat.tuple [Dat.str token, Dat.int line]])) then
 some
 ((Prod.fst (o, some told), some (told ++ [Dat.tuple [Dat.str token, Dat.int line]])),
 (kv "kind" (.str (ofString "")) :: kv "token" (.str (ofString "")) :: t5 grown line sign (tR text token (ofString "run") marks k late true)), Fl.next)
 else none
 else
 bif !grown then
 bif Prod.fst (Nat.ble (List.length told) 1000, Prod.fst (o, some told), some (told ++ [Dat.tuple [Dat.str token, Dat.int line]])) then
 some
 ((Prod.fst (o, some told), some (told ++ [Dat.tuple [Dat.str token, Dat.int line]])),
 (kv "token" (.str (ofString "")) :: kv "kind" (.str (ofString "")) :: kv "k" (.int (k - 1)) :: t5 grown line sign (tR text token (ofString "run") marks k late true)), Fl.next)
 else none
 else
 bif strOk token && strOk sign then
 some ((o, some told), (kv "token" (.str (token ++ sign)) :: kv "kind" (.str (ofString "run")) :: t5 grown line sign (tR text token (ofString "run") marks k late true)), Fl.next)
 else none := by kernel_rfl
theorem tell_5rf (O : Type) (o : O) (told : List V) (L : Addr) (cd : Value) (sign text token marks : Str) (k late line : Int) (grown : Bool) : runS (tellI O) (tE L cd) 60 (o, some told) [("grown", .bool grown), ("line", .int line), ("sign", .str sign), ("token", .str token), ("kind", .str "run"), ("k", .int k), ("late", .int late), ("text", .str text), ("posix", .bool false), ("marks", .str marks)] (hdS (wbody tW) 5) =
 bif Txt.contains (ofString " \t\x0d\n#") sign then
 bif Prod.fst (Nat.ble (List.length told) 1000, Prod.fst (o, some told), some (told ++ [Dat.tuple [Dat.str token, Dat.int line]])) then
 some
 ((Prod.fst (o, some told), some (told ++ [Dat.tuple [Dat.str token, Dat.int line]])),
 (kv "kind" (.str (ofString "")) :: kv "token" (.str (ofString "")) :: t5 grown line sign (tR text token (ofString "run") marks k late false)), Fl.next)
 else none
 else
 bif !grown then
 bif Prod.fst (Nat.ble (List.length told) 1000, Prod.fst (o, some told), some (told ++ [Dat.tuple [Dat.str token, Dat.int line]])) then
 some
 ((Prod.fst (o, some told), some (told ++ [Dat.tuple [Dat.str token, Dat.int line]])),
 (kv "token" (.str (ofString "")) :: kv "kind" (.str (ofString "")) :: kv "k" (.int (k - 1)) :: t5 grown line sign (tR text token (ofString "run") marks k late false)), Fl.next)
 else none
 else
 bif strOk token && strOk sign then
 some ((o, some told), (kv "token" (.str (token ++ sign)) :: kv "kind" (.str (ofString "run")) :: t5 grown line sign (tR text token (ofString "run") marks k late false)), Fl.next)
 else none := by kernel_rfl
theorem tell_5wt (O : Type) (o : O) (told : List V) (L : Addr) (cd : Value) (sign text token marks : Str) (k late line : Int) (grown : Bool) : runS (tellI O) (tE L cd) 60 (o, some told) [("grown", .bool grown), ("line", .int line), ("sign", .str sign), ("token", .str token), ("kind", .str "word"), ("k", .int k), ("late", .int late), ("text", .str text), ("posix", .bool true), ("marks", .str marks)] (hdS (wbody tW) 5) =
 bif Txt.contains (ofString " \t\x0d\n#") sign then
 bif Prod.fst (Nat.ble (List.length told) 1000, Prod.fst (o, some told), some (told ++ [Dat.tuple [Dat.str token, Dat.int line]])) then
 some
 ((Prod.fst (o, some told), some (told ++ [Dat.tuple [Dat.str token, Dat.int line]])),
 (kv "kind" (.str (ofString "")) :: kv "token" (.str (ofString "")) :: t5 grown line sign (tR text token (ofString "word") marks k late true)), Fl.next)
 else none
 else
 bif !grown then
 bif Prod.fst (Nat.ble (List.length told) 1000, Prod.fst (o, some told), some (told ++ [Dat.tuple [Dat.str token, Dat.int line]])) then
 some
 ((Prod.fst (o, some told), some (told ++ [Dat.tuple [Dat.str token, Dat.int line]])),
 (kv "token" (.str (ofString "")) :: kv "kind" (.str (ofString "")) :: kv "k" (.int (k - 1)) :: t5 grown line sign (tR text token (ofString "word") marks k late true)), Fl.next)
 else none
 else
 bif Txt.contains (ofString "'\"\\") sign then
 bif
 Prod.fst
 (Nat.ble (Str.length text) 100 && decide (0 ≤ k) && decide (k ≤ Nat.cast (Str.length text)) && Str.length sign == 1,
 Dat.tuple
 [Dat.str (S (Prod.fst (pieceL (List.headD (Array.toList (Str.cps sign)) 0) (List.drop (Int.toNat k) (Array.toList (Str.cps text))) []))),
 Dat.int (Nat.cast (List.length (Array.toList (Str.cps text)) - List.length (Prod.fst (Prod.snd (pieceL (List.headD (Array.toList (Str.cps sign)) 0) (List.drop (Int.toNat k) (Array.toList (Str.cps text))) []))))),
 Dat.str (faultS (Prod.snd (Prod.snd (pieceL (List.headD (Array.toList (Str.cps sign)) 0) (List.drop (Int.toNat k) (Array.toList (Str.cps text))) []))))]) then
 bif strOk token && strOk (S (Prod.fst (pieceL (List.headD (Array.toList (Str.cps sign)) 0) (List.drop (Int.toNat k) (Array.toList (Str.cps text))) []))) then
 bif !strEq (faultS (Prod.snd (Prod.snd (pieceL (List.headD (Array.toList (Str.cps sign)) 0) (List.drop (Int.toNat k) (Array.toList (Str.cps text))) [])))) (ofString "") then
 bif strEq (faultS (Prod.snd (Prod.snd (pieceL (List.headD (Array.toList (Str.cps sign)) 0) (List.drop (Int.toNat k) (Array.toList (Str.cps text))) [])))) (ofString "No escaped character") then
 some
 ((Prod.fst (o, some told), none),
 (kv "token" (.str (token ++ S (Prod.fst (pieceL (List.headD (Array.toList (Str.cps sign)) 0) (List.drop (Int.toNat k) (Array.toList (Str.cps text))) [])))) :: kv "kind" (.str (ofString "word")) :: kv "fault" (.str (faultS (Prod.snd (Prod.snd (pieceL (List.headD (Array.toList (Str.cps sign)) 0) (List.drop (Int.toNat k) (Array.toList (Str.cps text))) []))))) :: kv "k" (.int (Nat.cast (List.length (Array.toList (Str.cps text)) - List.length (Prod.fst (Prod.snd (pieceL (List.headD (Array.toList (Str.cps sign)) 0) (List.drop (Int.toNat k) (Array.toList (Str.cps text))) [])))))) :: kv "piece" (.str (S (Prod.fst (pieceL (List.headD (Array.toList (Str.cps sign)) 0) (List.drop (Int.toNat k) (Array.toList (Str.cps text))) [])))) :: t5 grown line sign (tR text token (ofString "word") marks k late true)),
 Fl.ret
 (Dat.tuple
 [Dat.list told,
 Dat.tuple
 [Dat.str (faultS (Prod.snd (Prod.snd (pieceL (List.headD (Array.toList (Str.cps sign)) 0) (List.drop (Int.toNat k) (Array.toList (Str.cps text))) [])))), Dat.str (ofString "\\"), Dat.str (token ++ S (Prod.fst (pieceL (List.headD (Array.toList (Str.cps sign)) 0) (List.drop (Int.toNat k) (Array.toList (Str.cps text))) []))),
 Dat.int (1 + Txt.count text (ofString "\n"))]]))
 else
 some
 ((Prod.fst (o, some told), none),
 (kv "token" (.str (token ++ S (Prod.fst (pieceL (List.headD (Array.toList (Str.cps sign)) 0) (List.drop (Int.toNat k) (Array.toList (Str.cps text))) [])))) :: kv "kind" (.str (ofString "word")) :: kv "fault" (.str (faultS (Prod.snd (Prod.snd (pieceL (List.headD (Array.toList (Str.cps sign)) 0) (List.drop (Int.toNat k) (Array.toList (Str.cps text))) []))))) :: kv "k" (.int (Nat.cast (List.length (Array.toList (Str.cps text)) - List.length (Prod.fst (Prod.snd (pieceL (List.headD (Array.toList (Str.cps sign)) 0) (List.drop (Int.toNat k) (Array.toList (Str.cps text))) [])))))) :: kv "piece" (.str (S (Prod.fst (pieceL (List.headD (Array.toList (Str.cps sign)) 0) (List.drop (Int.toNat k) (Array.toList (Str.cps text))) [])))) :: t5 grown line sign (tR text token (ofString "word") marks k late true)),
 Fl.ret
 (Dat.tuple
 [Dat.list told,
 Dat.tuple
 [Dat.str (faultS (Prod.snd (Prod.snd (pieceL (List.headD (Array.toList (Str.cps sign)) 0) (List.drop (Int.toNat k) (Array.toList (Str.cps text))) [])))), Dat.str sign, Dat.str (token ++ S (Prod.fst (pieceL (List.headD (Array.toList (Str.cps sign)) 0) (List.drop (Int.toNat k) (Array.toList (Str.cps text))) []))),
 Dat.int (1 + Txt.count text (ofString "\n"))]]))
 else
 some ((o, some told), (kv "token" (.str (token ++ S (Prod.fst (pieceL (List.headD (Array.toList (Str.cps sign)) 0) (List.drop (Int.toNat k) (Array.toList (Str.cps text))) [])))) :: kv "kind" (.str (ofString "word")) :: kv "fault" (.str (faultS (Prod.snd (Prod.snd (pieceL (List.headD (Array.toList (Str.cps sign)) 0) (List.drop (Int.toNat k) (Array.toList (Str.cps text))) []))))) :: kv "k" (.int (Nat.cast (List.length (Array.toList (Str.cps text)) - List.length (Prod.fst (Prod.snd (pieceL (List.headD (Array.toList (Str.cps sign)) 0) (List.drop (Int.toNat k) (Array.toList (Str.cps text))) [])))))) :: kv "piece" (.str (S (Prod.fst (pieceL (List.headD (Array.toList (Str.cps sign)) 0) (List.drop (Int.toNat k) (Array.toList (Str.cps text))) [])))) :: t5 grown line sign (tR text token (ofString "word") marks k late true)), Fl.next)
 else none
 else none
 else
 bif grown then
 bif strOk token && strOk sign then
 some ((o, some told), (kv "token" (.str (token ++ sign)) :: kv "kind" (.str (ofString "word")) :: t5 grown line sign (tR text token (ofString "word") marks k late true)), Fl.next)
 else none
 else
 bif Prod.fst (Nat.ble (List.length told) 1000, Prod.fst (o, some told), some (told ++ [Dat.tuple [Dat.str sign, Dat.int line]])) then
 some
 ((Prod.fst (o, some told), some (told ++ [Dat.tuple [Dat.str sign, Dat.int line]])),
 (t5 grown line sign (tR text token (ofString "word") marks k late true)), Fl.next)
 else none := by kernel_rfl
theorem tell_5wf (O : Type) (o : O) (told : List V) (L : Addr) (cd : Value) (sign text token marks : Str) (k late line : Int) (grown : Bool) : runS (tellI O) (tE L cd) 60 (o, some told) [("grown", .bool grown), ("line", .int line), ("sign", .str sign), ("token", .str token), ("kind", .str "word"), ("k", .int k), ("late", .int late), ("text", .str text), ("posix", .bool false), ("marks", .str marks)] (hdS (wbody tW) 5) =
 bif Txt.contains (ofString " \t\x0d\n#") sign then
 bif Prod.fst (Nat.ble (List.length told) 1000, Prod.fst (o, some told), some (told ++ [Dat.tuple [Dat.str token, Dat.int line]])) then
 some
 ((Prod.fst (o, some told), some (told ++ [Dat.tuple [Dat.str token, Dat.int line]])),
 (kv "kind" (.str (ofString "")) :: kv "token" (.str (ofString "")) :: t5 grown line sign (tR text token (ofString "word") marks k late false)), Fl.next)
 else none
 else
 bif !grown then
 bif Prod.fst (Nat.ble (List.length told) 1000, Prod.fst (o, some told), some (told ++ [Dat.tuple [Dat.str token, Dat.int line]])) then
 some
 ((Prod.fst (o, some told), some (told ++ [Dat.tuple [Dat.str token, Dat.int line]])),
 (kv "token" (.str (ofString "")) :: kv "kind" (.str (ofString "")) :: kv "k" (.int (k - 1)) :: t5 grown line sign (tR text token (ofString "word") marks k late false)), Fl.next)
 else none
 else
 bif grown then
 bif strOk token && strOk sign then
 some ((o, some told), (kv "token" (.str (token ++ sign)) :: kv "kind" (.str (ofString "word")) :: t5 grown line sign (tR text token (ofString "word") marks k late false)), Fl.next)
 else none
 else
 bif Prod.fst (Nat.ble (List.length told) 1000, Prod.fst (o, some told), some (told ++ [Dat.tuple [Dat.str sign, Dat.int line]])) then
 some
 ((Prod.fst (o, some told), some (told ++ [Dat.tuple [Dat.str sign, Dat.int line]])),
 (t5 grown line sign (tR text token (ofString "word") marks k late false)), Fl.next)
 else none := by kernel_rfl
theorem tell_6n (O : Type) (o : O) (told : List V) (L : Addr) (cd : Value) (text token marks : Str) (k late : Int) (posix : Bool) : runS (tellI O) (tE L cd) 60 (o, some told) [("token", .str token), ("kind", .str ""), ("k", .int k), ("late", .int late), ("text", .str text), ("posix", .bool posix), ("marks", .str marks)] (hdS (fbody (stAt 24)) 2) =
 some ((o, some told), (tR text token (ofString "") marks k late posix), Fl.next) := by kernel_rfl
theorem tell_6r (O : Type) (o : O) (told : List V) (L : Addr) (cd : Value) (text token marks : Str) (k late : Int) (posix : Bool) : runS (tellI O) (tE L cd) 60 (o, some told) [("token", .str token), ("kind", .str "run"), ("k", .int k), ("late", .int late), ("text", .str text), ("posix", .bool posix), ("marks", .str marks)] (hdS (fbody (stAt 24)) 2) =
 bif Prod.fst (Nat.ble (List.length told) 1000, Prod.fst (o, some told), some (told ++ [Dat.tuple [Dat.str token, Dat.int (1 + Txt.count text (ofString "\n") + late)]])) then
 some
 ((Prod.fst (o, some told), some (told ++ [Dat.tuple [Dat.str token, Dat.int (1 + Txt.count text (ofString "\n") + late)]])),
 (tR text token (ofString "run") marks k late posix), Fl.next)
 else none := by kernel_rfl
theorem tell_6w (O : Type) (o : O) (told : List V) (L : Addr) (cd : Value) (text token marks : Str) (k late : Int) (posix : Bool) : runS (tellI O) (tE L cd) 60 (o, some told) [("token", .str token), ("kind", .str "word"), ("k", .int k), ("late", .int late), ("text", .str text), ("posix", .bool posix), ("marks", .str marks)] (hdS (fbody (stAt 24)) 2) =
 bif Prod.fst (Nat.ble (List.length told) 1000, Prod.fst (o, some told), some (told ++ [Dat.tuple [Dat.str token, Dat.int (1 + Txt.count text (ofString "\n") + late)]])) then
 some
 ((Prod.fst (o, some told), some (told ++ [Dat.tuple [Dat.str token, Dat.int (1 + Txt.count text (ofString "\n") + late)]])),
 (tR text token (ofString "word") marks k late posix), Fl.next)
 else none := by kernel_rfl
theorem tell_7 (O : Type) (o : O) (told : List V) (L : Addr) (cd : Value) (text token kind marks : Str) (k late : Int) (posix : Bool) : runS (tellI O) (tE L cd) 60 (o, some told) [("token", .str token), ("kind", .str kind), ("k", .int k), ("late", .int late), ("text", .str text), ("posix", .bool posix), ("marks", .str marks)] (hdS (fbody (stAt 24)) 3) =
 some
 ((Prod.fst (o, some told), none), (tR text token kind marks k late posix),
 Fl.ret (Dat.tuple [Dat.list told, Dat.tuple [Dat.str (ofString ""), Dat.none, Dat.str (ofString ""), Dat.int (1 + Txt.count text (ofString "\n") + late)]])) := by kernel_rfl
section
variable {prog : Program} {w : World} {A : Around} {O : Type} {C : Cx O} {env : Env} {I : Ifc O} {X : Nat → Led → Shared → (Value → Shared → Prop) → Prop} {sa : Addr}
theorem bl_weak {o : O} {ρ ρ' : Loc} {b : List Stmt} {r : O × Loc × Fl} (h : BlOk prog w A C env X o ρ' b r) (hs : sle ρ' ρ) : BlOk prog w A C env X o ρ b r :=
  fun fz s Q E h' hq => h fz s Q E (h'.weak hs) hq
@[irreducible] noncomputable def runT {O : Type} (I : Ifc O) (n : Nat) (o : O) (ρ : Loc) (test : Expr) : Option Bool := evalK brO (I.orc o) ρ none n test fun v => truthK brO none v fun t => some t
theorem runT_ok (K : IfcOk prog w A C env I X sa) {n : Nat} {test : Expr} {o : O} {ρ : Loc} {t : Bool} (h : runT I n o ρ test = some t) : TrOk prog w A C o env ρ test t := by
  unfold runT at h
  obtain ⟨v, hv, h⟩ := evalK_ok (K.orc o) ρ n _ _ h
  obtain ⟨t', ht, h⟩ := truthK_of h
  cases h
  exact hv.2 _ ht
end
theorem tell_t (O : Type) (o : O) (told : List V) (text token kind marks : Str) (k late : Int) (posix : Bool) : runT (tellI O) 60 (o, some told) [("token", .str token), ("kind", .str kind), ("k", .int k), ("late", .int late), ("text", .str text), ("posix", .bool posix), ("marks", .str marks)] (wtest tW) =
  bif strOk text then some (decide (k < Nat.cast (Str.length text))) else none := by kernel_rfl
noncomputable def inWL (posix : Bool) (M : List Nat) (c : Nat) : Bool :=
  !decide (c ∈ M) && ((decide (97 ≤ c) && decide (c ≤ 122)) || (decide (65 ≤ c) && decide (c ≤ 90)) || (decide (48 ≤ c) && decide (c ≤ 57)) || decide (c ∈ [95, 126, 45, 46, 47, 42, 63, 61]) || (posix && (decide (192 ≤ c) && decide (c ≤ 255)) && !decide (c ∈ [215, 247])))
theorem not_lt (a b : Nat) : (!decide (a < b)) = decide (b ≤ a) := by
  by_cases h : a < b
  · simp [h]
  · simp [h]; lia
theorem inWord_S (c : Nat) (posix : Bool) (M : List Nat) : inWord (S [c]) posix (S M) = inWL posix M c := by
  have ea : (ofString "a") = S [97] := by decide +kernel
  have ez : (ofString "z") = S [122] := by decide +kernel
  have eA : (ofString "A") = S [65] := by decide +kernel
  have eZ : (ofString "Z") = S [90] := by decide +kernel
  have e0 : (ofString "0") = S [48] := by decide +kernel
  have e9 : (ofString "9") = S [57] := by decide +kernel
  have eÀ : (ofString "À") = S [192] := by decide +kernel
  have eÿ : (ofString "ÿ") = S [255] := by decide +kernel
  have ew : (ofString "_~-./*?=") = S [95, 126, 45, 46, 47, 42, 63, 61] := by decide +kernel
  have ex : (ofString "×÷") = S [215, 247] := by decide +kernel
  unfold inWord inWL
  rw [ea, ez, eA, eZ, e0, e9, eÀ, eÿ, ew, ex]
  simp only [cont_S, strLt_S, not_lt, Bool.or_assoc, Bool.and_assoc]
structure HeldS (base h : Heap) (l : List Env) (e : Addr) (cls : Value) (t : Addr) (vs : List Value) (L : Addr) (h' : Heap) : Prop where
  held : ∃ B, base.StaysIn B ∧ (∀ b o, h.get? b = some o → b ∉ l.filterMap (·.frame) → B.get? b = some o) ∧ Heap.HeldW B l e cls (.ref t) L h' ∧ B.get? t = none
  tup : h'.TupAt t vs
  up : h.UpToSlots h'
section
variable {M : Model} {A : Around} {E : Value → Shared → Prop} {s : Shared} {base h g : Heap} {outer : List Env} {env : Env} {L e t : Addr} {m : Str → Option Value} {cls : Value} {vs : List Value} {news : Led}
theorem note_made {Q : Unit → Shared → Prop} (K : Below A base (env :: outer) h) (hf : env.frame = some L) (hx : Heap.MadeExcOf h s.heap e cls vs)
    (hQ : ∀ h' t, HeldS base h (env :: outer) e cls t vs L h' → Q () { s with heap := h' }) : wpAny M A (noteFrame (.ref e) env) Q E s := by
  obtain ⟨t, he, htn, ht⟩ := hx.there
  have hin : ∀ env' ∈ (env :: outer), ∀ b, env'.frame = some b → b ∈ (env :: outer).filterMap (·.frame) := fun env' he b hb => List.mem_filterMap.mpr ⟨env', he, hb⟩
  have st : base.StaysIn (hideAll h ((env :: outer).filterMap (·.frame))) := fun b o q => hideAll_get _ (K.stays b o q) fun hm => by
    rw [(K.frames.mem hm).1] at q; cases q
  have hno : ∀ b, h.get? b = none → (hideAll h ((env :: outer).filterMap (·.frame))).get? b = none := fun b hb => by
    cases q : (hideAll h ((env :: outer).filterMap (·.frame))).get? b with
    | none => rfl
    | some o => have := of_hideAll _ q; rw [hb] at this; cases this
  unfold noteFrame
  simp only [hf]
  refine wpAny_bind (wpAny_field he rfl rfl ?_)
  rw [if_neg (by simp)]
  have hfr := (funFrames_hide K.frames hin)
  refine wpAny_entryW (base := hideAll h ((env :: outer).filterMap (·.frame))) (a0 := .ref t) K.stack (hfr.of_keeps fun b o hb _ => ⟨o, hx.keeps b o hb, rfl⟩) hf he (fun b o hb => hx.keeps b o (of_hideAll _ hb)) (hno e hx.new) rfl (by simp) rfl fun h' hN => ?_
  obtain ⟨k1, k2, k3, k4⟩ := hN
  exact hQ h' t ⟨⟨_, st, fun b o hb hn => hideAll_get _ hb hn, ⟨k1, hno e hx.new, k2, k3⟩, hno t htn⟩, Heap.TupAt.of_slots ⟨_, _, ht, rfl, rfl⟩ k4, (Heap.UpToSlots.of_keeps hx.keeps).trans k4⟩
theorem note_held {Q : Unit → Shared → Prop} (hf : env.frame = some L) (H : HeldS base h (env :: outer) e cls t vs L s.heap) (hQ : Q () s) : wpAny M A (noteFrame (.ref e) env) Q E s := by
  obtain ⟨⟨B, _, _, hh, _⟩, _, _⟩ := H
  exact wpAny_noteFrame_againW hf hh.2.2.2 hQ
theorem flight_some {base : Heap} {l : List Env} {a0 fl : Value} {f : Addr} {Q : Unit → Shared → Prop}
    (hkb : base.StaysIn s.heap) (hl : s.heap.FunFrames base l) (ht : s.heap.TracedAtW base e cls a0 fl)
    (h : ∀ h', base.StaysIn h' → h'.FunFrames base l → h'.TracedAtW base e cls a0 (rawInt f) → (∀ b o, s.heap.get? b = some o → (∀ vs, o.data ≠ .fields vs) → h'.get? b = some o) → Q () { s with heap := h' }) :
    wpAny M A (setFlight (.ref e) (some f)) Q E s := by
  obtain ⟨oe, vs, T, oT, ts, he, hcls, hd, h1, hnT, hTe, hT, hdT, h3⟩ := ht
  have hsz3 : 3 < ts.size := (Array.getElem?_eq_some_iff.mp h3).1
  have other : ∀ b, b ≠ T → (s.heap.update T (Obj.mapFields (·.setIfInBounds 3 ((some f : Option Addr).elim Value.none fun f => rawInt f)))).get? b = s.heap.get? b :=
    fun b hb => Heap.get?_update_other _ _ (Ne.symm hb)
  have noRecord : ∀ b o, s.heap.get? b = some o → (∀ vs, o.data ≠ .fields vs) → b ≠ T := fun b o hb hnf q => by
    rw [q, hT] at hb; injection hb with hb; subst hb; exact hnf ts hdT
  unfold setFlight
  refine wpAny_bind (wpAny_field he hd h1 ?_)
  rw [if_pos (show (Value.ref T != Value.none) = true from by simp)]
  refine wpAny_setField hT hdT hsz3 (h _ (fun b o hbo => (other b fun q => by rw [q, hnT] at hbo; cases hbo).trans (hkb b o hbo))
    (hl.of_keeps fun b o hb hnf => ⟨o, (other b (noRecord b o hb hnf)).trans hb, rfl⟩) ?_ fun b o hb hnf => (other b (noRecord b o hb hnf)).trans hb)
  exact ⟨oe, vs, T, _, _, (other e (Ne.symm hTe)).trans he, hcls, hd, h1, hnT, hTe, Heap.get?_update_self _ hT (Obj.isFreed_of_fields (Obj.data_mapFields hdT _)), Obj.data_mapFields hdT _, by simp [hsz3]⟩
theorem back_held (hf : env.frame = some L) (H : HeldS base h (env :: outer) e cls t vs L s.heap) (hQ : ∀ h', HeldS base h (env :: outer) e cls t vs L h' → E (.ref e) { s with heap := h' }) : cameBackBy M A env E (.ref e) s := by
  obtain ⟨⟨B, b1, b2, ⟨c1, c2, c3, c4⟩, b4⟩, tup, up⟩ := H
  unfold cameBackBy
  obtain ⟨oe, ws, T, oT, ts, he, hcls, hd, h1, hnT, hTe, hT, hdT, h3⟩ := id c4
  refine wpAny_bind (wpAny_field he hd h1 ?_)
  rw [if_neg (show ¬ (Value.ref T == Value.none) = true from by simp)]
  rw [hf]
  refine flight_some c1 c3 c4 fun h' k1 k2 k3 k4 => hQ h' ⟨⟨B, b1, b2, ⟨k1, c2, k2, k3⟩, b4⟩, ?_, up.trans fun b o hb hn => ⟨o.slots, k4 b o hb hn⟩⟩
  exact tup.of_slots fun b o hb hn => ⟨o.slots, k4 b o hb hn⟩
theorem leave_held {Q : Unit → Shared → Prop} (K : Below A base (env :: outer) h) (K₀ : ∀ b o, base.get? b = some o → g.get? b = some o) (hf : env.frame = some L) (F : Fr g L h m) (N : News g L h news) (H : HeldS base h (env :: outer) e cls t vs L s.heap)
    (hout : ∀ b ∈ outer.filterMap (·.frame), (∃ o, g.get? b = some o))
    (hQ : ∀ h', RaisedK base outer e cls t vs news h' → g.UpToSlots h' → Q () { s with heap := h' }) : wpAny M A (leaving env (.ref e)) Q E s := by
  obtain ⟨⟨B, b1, b2, hh, b4⟩, tup, up⟩ := H
  unfold leaving
  refine wpAny_bind (wpAny_noteFrame_againW hf hh.2.2.2 ?_)
  refine wpAny_landsW hh fun h' hfl up' => hQ h' ?_ ((Heap.UpToSlots.of_keeps F.keep).trans (up.trans up'))
  obtain ⟨k1, k2, ⟨_, _, k3⟩, k4⟩ := hfl
  refine ⟨⟨B, b1, fun q hq => ⟨b2 q.1 q.2 (N q hq).1 fun hm => ?_, fresh_of_stays (fun b o e => K₀ b o e) (N q hq).2.2⟩, ⟨k1, k2, k3, k4⟩, b4⟩, tup.of_slots up'⟩
  obtain ⟨env', he', hf'⟩ := List.mem_filterMap.mp hm
  rcases List.mem_cons.mp he' with rfl | he'
  · exact (N q hq).2.1 (Option.some.inj (hf'.symm.trans hf))
  · obtain ⟨o, ho⟩ := hout q.1 (List.mem_filterMap.mpr ⟨env', he', hf'⟩)
    rw [(N q hq).2.2] at ho; cases ho
end
noncomputable def xtext (k : Nat) : Str := if k = 1 then "No closing quotation" else "No escaped character"
def XF (base h₀ : Heap) (outer : List Env) (env : Env) (L : Addr) (k : Nat) (_ : Led) (s : Shared) (E : Value → Shared → Prop) : Prop :=
  (∃ m, Fr h₀ L s.heap m) → ∀ e t tk h', (Heap.MadeExcOf s.heap h' e (.type "ValueError") [.str (xtext k) tk] ∨ HeldS base s.heap (env :: outer) e (.type "ValueError") t [.str (xtext k) tk] L h') → E (.ref e) { s with heap := h' }
theorem XF_loop {M : Model} {A₀ : Around} {base h₀ : Heap} {outer : List Env} {env : Env} {L : Addr} (K : Below A₀ base outer h₀) (hf : env.frame = some L) (hk : env.scope.kind = .function) :
    ∀ k fz s E, XF base h₀ outer env L k fz s E → XF base h₀ outer env L k fz s (notedBy M (A₀.deeper env) env (cameBackBy M (A₀.deeper env) env E)) := by
  intro k fz s E hX ⟨m, F⟩ e t tk h' hx
  have K' := pushX K F hf hk
  rcases hx with hx | hx
  · exact note_made (s := { s with heap := h' }) K' hf hx fun h'' t' H => back_held (s := { s with heap := h'' }) hf H fun h₃ H' => hX ⟨m, F⟩ e t' tk h₃ (.inr H')
  · exact note_held (s := { s with heap := h' }) hf hx (back_held (s := { s with heap := h' }) hf hx fun h₃ H' => hX ⟨m, F⟩ e t tk h₃ (.inr H'))
def ExcAt {O : Type} (C : Cx O) (base : Heap) (l : List Env) (o : O) (ρ : Loc) (fz : Led) (k : Nat) (e : Addr) (s : Shared) : Prop :=
  ∃ h tk g m R t tx, s = { C.s₀ with heap := h, toks := tk } ∧ Fr C.h₀ C.L g m ∧ g.UpToSlots h ∧ RaisedK base l e (.type "ValueError") t [.str (xtext k) tx] (R ++ (fz ++ C.rest)) h ∧ C.Rep o fz R ∧ Apart R (fz ++ C.rest) ∧
    (∀ x v, ρ.lookup x = some v → ∃ v', m x = some v' ∧ VR fz v v') ∧ ∀ p ∈ C.refs, m p.1 = some p.2
section
variable {prog : Program} {w : World} {K : Frag} {p : Program} {loose : List Str} {mean : ExcName → Option Value} {mg mb : Str → Option Value} {A₀ : Around} {base : Heap} {outer : List Env} {A : Around} {env : Env} {O : Type}
theorem call_run {C : Cx O} {d : Nat} (R : Rim K p loose mean mg mb A₀ base outer A env C.h₀ C.L (d + 1)) {o : O} {ρ : Loc} {fz : Led} {s : Shared} (h : At C o ρ fz s)
    {name qual : Str} {params : Arguments} {body : List Stmt} {scope : Scope} {dV kV doc pm cdv ct oc : Value} {an od : Option Addr} {osl : Array (Option Value)} {f : Addr} {args : Args} {binds : List (Str × Value)}
    (ho : K.lookup f = some ⟨oc, od, .func (fnOf name qual params body scope dV kV doc pm an cdv ct), osl⟩) (hcd : codeIn K cdv qual = true)
    (hbind : BindsTo s (fnOf name qual params body scope dV kV doc pm an cdv ct) args binds) (hloc : ∀ y ∈ binds, scope.names.lookup y.1 = some .local)
    (hco : scope.isCoroutine = false) (hgen : scope.isGenerator = false) (hk : scope.kind = .function) (hcell : ∀ x ∈ scope.names, x.2 ≠ .cell)
    {ρ' : Loc} {refs' : List (Str × Value)} (hρ : ∀ x v, ρ'.lookup x = some v → ∃ v', binds.reverse.lookup x = some v' ∧ VR fz v v') (hrefs : ∀ q ∈ refs', binds.reverse.lookup q.1 = some q.2)
    {Re : Result → Shared → Prop} {Res : O → Fl → Prop}
    (hbody : ∀ g L', Rim K p loose mean mg mb A base (env :: outer) (A.deeper (envOf qual scope L' f cdv)) (envOf qual scope L' f cdv) g L' d →
      ∃ r : O × Loc × Fl, BlOk prog w (A.deeper (envOf qual scope L' f cdv)) (calleeCx C g L' refs') (envOf qual scope L' f cdv) (XF base g (env :: outer) (envOf qual scope L' f cdv) L') o ρ' body r ∧ Res r.1 r.2.2 ∧ ((∃ d, r.2.2 = .ret d) ∨ ∃ k, r.2.2 = .exc k))
    (hq : ∀ fz' s' o' d v, Res o' (.ret d) → Sub fz fz' → At C o' ρ fz' s' → VR fz' d v → Re (.ok (.ret v)) s')
    (hexc : ∀ fz' s' o' k e, Res o' (.exc k) → Sub fz fz' → ExcAt C base (env :: outer) o' ρ fz' k e s' → Re (.error (.ref e)) s') :
    codeAny (model prog w) A (.call (.ref f) args) Re s := by
  obtain ⟨hp, tk, m, Rl, rfl, F, N, rp, ap, lc, rf⟩ := id h
  refine code_def R.B F R.X N R.T R.hA R.hf R.hk ho hcd (by have := R.room; omega) hbind hloc (fun g L' h₁ FG F' N' B' X' T' => ?_) hco hgen hk hcell
  have R' : Rim K p loose mean mg mb A base (env :: outer) (A.deeper (envOf qual scope L' f cdv)) (envOf qual scope L' f cdv) g L' d := by
    refine ⟨B', X', T', ?_, rfl, hk, rfl, rfl, rfl, R.hh, inter_off hk, ?_⟩
    · exact Around.frames_deeper R.hA
    · have := R.room
      show A.depth + 1 + d ≤ _
      omega
  have hA' : At (calleeCx C g L' refs') o ρ' fz { heap := h₁, gens := C.s₀.gens, drawn := C.s₀.drawn, toks := tk + binds.length, os := C.s₀.os } := ⟨h₁, _, _, Rl, rfl, F', N', rp, ap, fun x v hx => hρ x v hx, hrefs⟩
  obtain ⟨⟨o', ρ'', fl⟩, hb, hres, hfl⟩ := hbody g L' R'
  refine hb fz _ _ _ hA' fun fz' s'' sb h₂ => ?_
  obtain ⟨hp₂, tk₂, m₂, R₂, rfl, F₂, N₂, rp₂, ap₂, lc₂, rf₂⟩ := h₂
  have hlc : ∀ x v, ρ.lookup x = some v → ∃ v', m x = some v' ∧ VR fz' v v' := lc.mono sb
  rcases hfl with ⟨dd, rfl⟩ | ⟨k, rfl⟩
  · intro v hv
    exact ⟨L', m₂, _, F₂, N₂, fun F₃ N₃ => hq fz' _ o' dd v hres sb ⟨hp₂, tk₂, m, R₂, rfl, F₃, N₃, rp₂, ap₂, hlc, rf⟩ hv⟩
  · intro _ e t tx h' hx
    have F₂' : Fr g L' hp₂ m₂ := F₂
    have N₂' : News g L' hp₂ (R₂ ++ (fz' ++ C.rest)) := N₂
    rcases hx with hx | hx
    · exact leave_raiseK B' hx F₂' N₂' (fun h₃ t' RK up => hexc fz' _ o' k e hres sb ⟨h₃, tk₂, g, m, R₂, t', tx, rfl, FG, up, RK, rp₂, ap₂, hlc, rf⟩) hk
    · refine leave_held (s := { heap := h', gens := C.s₀.gens, drawn := C.s₀.drawn, toks := tk₂, os := C.s₀.os }) (pushX B' F₂' rfl hk) B'.stays rfl F₂' N₂' hx (fun b hb => ?_) fun h₃ RK up => hexc fz' _ o' k e hres sb ⟨h₃, tk₂, g, m, R₂, t, tx, rfl, FG, up, RK, rp₂, ap₂, hlc, rf⟩
      obtain ⟨_, o₁, ho₁, _⟩ := B'.frames.mem hb
      exact ⟨o₁, ho₁⟩
theorem call_hand {C : Cx O} {d : Nat} (R : Rim K p loose mean mg mb A₀ base outer A env C.h₀ C.L (d + 1)) {o : O} {ρ : Loc} {fz : Led} {s : Shared} (h : At C o ρ fz s)
    {name qual : Str} {params : Arguments} {body : List Stmt} {scope : Scope} {dV kV doc pm cdv ct oc : Value} {an od : Option Addr} {osl : Array (Option Value)} {f : Addr} {args : Args} {binds : List (Str × Value)}
    (ho : K.lookup f = some ⟨oc, od, .func (fnOf name qual params body scope dV kV doc pm an cdv ct), osl⟩) (hcd : codeIn K cdv qual = true)
    (hbind : BindsTo s (fnOf name qual params body scope dV kV doc pm an cdv ct) args binds) (hloc : ∀ y ∈ binds, scope.names.lookup y.1 = some .local)
    (hco : scope.isCoroutine = false) (hgen : scope.isGenerator = false) (hk : scope.kind = .function) (hcell : ∀ x ∈ scope.names, x.2 ≠ .cell)
    {ρ' : Loc} {refs' : List (Str × Value)} (hρ : ∀ x v, ρ'.lookup x = some v → ∃ v', binds.reverse.lookup x = some v' ∧ VR fz v v') (hrefs : ∀ q ∈ refs', binds.reverse.lookup q.1 = some q.2)
    {Re : Result → Shared → Prop} {Post : O → V → Prop} {PostX : O → Nat → Prop}
    (hbody : ∀ g L' s', Rim K p loose mean mg mb A base (env :: outer) (A.deeper (envOf qual scope L' f cdv)) (envOf qual scope L' f cdv) g L' d → At (calleeCx C g L' refs') o ρ' fz s' →
      wpAny (model prog w) (A.deeper (envOf qual scope L' f cdv)) (execs body (envOf qual scope L' f cdv))
        (fun fl s'' => ∃ fz' o' ρ'' d, Sub fz fz' ∧ At (calleeCx C g L' refs') o' ρ'' fz' s'' ∧ VR fz' d (match fl with | .ret v => v | _ => .none) ∧ Post o' d)
        (fun e s'' => ∃ fz' o' ρ'' k a, e = .ref a ∧ Sub fz fz' ∧ ExcAt (calleeCx C g L' refs') base (envOf qual scope L' f cdv :: env :: outer) o' ρ'' fz' k a s'' ∧ PostX o' k) s')
    (hq : ∀ fz' s' o' d v, Post o' d → Sub fz fz' → At C o' ρ fz' s' → VR fz' d v → Re (.ok (.ret v)) s')
    (hexc : ∀ fz' s' o' k e, PostX o' k → Sub fz fz' → ExcAt C base (env :: outer) o' ρ fz' k e s' → Re (.error (.ref e)) s') :
    codeAny (model prog w) A (.call (.ref f) args) Re s := by
  obtain ⟨hp, tk, m, Rl, rfl, F, N, rp, ap, lc, rf⟩ := id h
  refine code_def R.B F R.X N R.T R.hA R.hf R.hk ho hcd (by have := R.room; omega) hbind hloc (fun g L' h₁ FG F' N' B' X' T' => ?_) hco hgen hk hcell
  have R' : Rim K p loose mean mg mb A base (env :: outer) (A.deeper (envOf qual scope L' f cdv)) (envOf qual scope L' f cdv) g L' d := by
    refine ⟨B', X', T', ?_, rfl, hk, rfl, rfl, rfl, R.hh, inter_off hk, ?_⟩
    · exact Around.frames_deeper R.hA
    · have := R.room
      show A.depth + 1 + d ≤ _
      omega
  have hA' : At (calleeCx C g L' refs') o ρ' fz { heap := h₁, gens := C.s₀.gens, drawn := C.s₀.drawn, toks := tk + binds.length, os := C.s₀.os } := ⟨h₁, _, _, Rl, rfl, F', N', rp, ap, fun x v hx => hρ x v hx, hrefs⟩
  have hlc : ∀ fz', Sub fz fz' → ∀ x v, ρ.lookup x = some v → ∃ v', m x = some v' ∧ VR fz' v v' := fun fz' sb x v hx => by
    obtain ⟨v', e1, e2⟩ := lc x v hx
    exact ⟨v', e1, e2.mono sb⟩
  refine wpAny_mono (hbody g L' _ R' hA') (fun fl s'' hfl => ?_) fun e s'' he => ?_
  · obtain ⟨fz', o', ρ'', dd, sb, ⟨h₂, tk₂, m₂, R₂, rfl, F₂, N₂, rp₂, ap₂, lc₂, rf₂⟩, hv, hpost⟩ := hfl
    exact ⟨L', m₂, _, F₂, N₂, fun F₃ N₃ => hq fz' _ o' dd _ hpost sb ⟨h₂, tk₂, m, R₂, rfl, F₃, N₃, rp₂, ap₂, hlc fz' sb, rf⟩ hv⟩
  · obtain ⟨fz', o', ρ'', k, a, rfl, sb, ⟨h₂, tk₂, g₂, m₂, R₂, t, tx, rfl, F₂, up, RK, rp₂, ap₂, _, _⟩, hpost⟩ := he
    have F₂' : Fr g L' g₂ m₂ := F₂
    exact leave_onK B' F₂' RK up fun h₃ RK' up' => hexc fz' _ o' k a hpost sb ⟨h₃, tk₂, g, m, R₂, t, tx, rfl, FG, up', RK', rp₂, ap₂, hlc fz' sb, rf⟩
end
structure TS where
  kind : Nat
  token : List Nat
  k : Nat
  late : Nat
  told : List (List Nat × Nat)
noncomputable def kindS : Nat → Str
  | 0 => ""
  | 1 => "run"
  | _ => "word"
noncomputable def toldV (l : List (List Nat × Nat)) : List V := l.map fun x => .tuple [.str (S x.1), .int (x.2 : Int)]
inductive TOut where
  | go (s : TS)
  | fin (told : List (List Nat × Nat)) (words c : Nat) (tok : List Nat) (line : Nat)
noncomputable def finV (told : List (List Nat × Nat)) (words c : Nat) (tok : List Nat) (line : Nat) : V := .tuple [.list (toldV told), .tuple [.str (faultS words), .str (S [c]), .str (S tok), .int (line : Int)]]
noncomputable def pastC (T : List Nat) (c k1 late : Nat) : Nat × Nat := if c = 35 then (if firstAt 10 (T.drop k1) k1 + 1 = 0 then (T.length, 1) else ((firstAt 10 (T.drop k1) k1 + 1).toNat, late)) else (k1, late)
noncomputable def lineAt (T : List Nat) (k late : Nat) : Nat := 1 + (T.take k).count 10 + late
noncomputable def grownL (posix : Bool) (M : List Nat) (kind c : Nat) : Bool := if kind = 1 then decide (c ∈ M) else (inWL posix M c || decide (c ∈ if posix = true then [39, 34, 92] else [39, 34]))
noncomputable def wsL : List Nat := [32, 9, 13, 10, 35]
theorem goInj {a b : TS} (h : TOut.go a = TOut.go b) : a = b := by cases h; rfl
noncomputable def tellTail (T M : List Nat) (posix : Bool) (kind : Nat) (token : List Nat) (told : List (List Nat × Nat)) (c k late line : Nat) (grown : Bool) : TOut :=
  if c ∈ [32, 9, 13, 10, 35] then .go ⟨0, [], k, late, if kind ≠ 0 then told ++ [(token, line)] else told⟩
  else if kind ≠ 0 ∧ grown = false then .go ⟨0, [], k - 1, late, told ++ [(token, line)]⟩
  else if kind = 1 ∨ (kind = 0 ∧ c ∈ M ∧ ¬(posix = true ∧ c = 92)) then .go ⟨1, token ++ [c], k, late, told⟩
  else if posix = true ∧ c ∈ [39, 34, 92] then
    if (pieceL c (T.drop k) []).2.2 ≠ 0 then .fin told (pieceL c (T.drop k) []).2.2 (if (pieceL c (T.drop k) []).2.2 = 1 then c else 92) (token ++ (pieceL c (T.drop k) []).1) (1 + T.count 10)
    else .go ⟨2, token ++ (pieceL c (T.drop k) []).1, T.length - (pieceL c (T.drop k) []).2.1.length, late, told⟩
  else if kind = 0 ∧ c ∈ [39, 34] then
    if firstAt c (T.drop k) k < 0 then .fin told 1 c (T.drop (k - 1)) (1 + T.count 10)
    else .go ⟨0, token, (firstAt c (T.drop k) k).toNat + 1, late, told ++ [((T.drop (k - 1)).take ((firstAt c (T.drop k) k).toNat + 1 - (k - 1)), 1 + (T.take (firstAt c (T.drop k) k).toNat).count 10)]⟩
  else if grown = true then .go ⟨2, token ++ [c], k, late, told⟩
  else .go ⟨kind, token, k, late, told ++ [([c], line)]⟩
noncomputable def tellStep (T M : List Nat) (posix : Bool) (s : TS) (c : Nat) : TOut :=
  let p := pastC T c (s.k + 1) s.late
  if c = 35 ∧ posix = false then .go { s with k := p.1, late := p.2 }
  else tellTail T M posix s.kind s.token s.told c p.1 p.2 (lineAt T p.1 p.2) (grownL posix M s.kind c)
noncomputable abbrev tRho (T M : List Nat) (posix : Bool) (s : TS) : Loc := [("token", .str (S s.token)), ("kind", .str (kindS s.kind)), ("k", .int (s.k : Int)), ("late", .int (s.late : Int)), ("text", .str (S T)), ("posix", .bool posix), ("marks", .str (S M))]
noncomputable abbrev r1 (T M : List Nat) (posix : Bool) (token : List Nat) (kind c k late : Nat) : Loc := [("sign", .str (S [c])), ("token", .str (S token)), ("kind", .str (kindS kind)), ("k", .int (k : Int)), ("late", .int (late : Int)), ("text", .str (S T)), ("posix", .bool posix), ("marks", .str (S M))]
noncomputable abbrev r5 (T M : List Nat) (posix : Bool) (token : List Nat) (kind c k late line : Nat) (grown : Bool) : Loc := [("grown", .bool grown), ("line", .int (line : Int)), ("sign", .str (S [c])), ("token", .str (S token)), ("kind", .str (kindS kind)), ("k", .int (k : Int)), ("late", .int (late : Int)), ("text", .str (S T)), ("posix", .bool posix), ("marks", .str (S M))]
theorem lit35 : (ofString "#") = S [35] := by decide +kernel
theorem lit10 : (ofString "\n") = S [10] := by decide +kernel
theorem litq3 : (ofString "'\"\\") = S [39, 34, 92] := by decide +kernel
theorem litq2 : (ofString "'\"") = S [39, 34] := by decide +kernel
theorem litws : (ofString " \t\x0d\n#") = S [32, 9, 13, 10, 35] := by decide +kernel
theorem litrun : (ofString "run") = S [114, 117, 110] := by decide +kernel
theorem litword : (ofString "word") = S [119, 111, 114, 100] := by decide +kernel
theorem litnil : (ofString "") = S [] := by decide +kernel
theorem firstAt_bd (c : Nat) (l : List Nat) (k : Nat) : firstAt c l k = -1 ∨ ∃ j, firstAt c l k = ((k + j : Nat) : Int) ∧ j < l.length := by
  rcases firstAt_spec c l k with ⟨h, _⟩ | ⟨j, h, h2, _⟩
  · exact .inl h
  · exact .inr ⟨j, h, (List.getElem?_eq_some_iff.mp h2).1⟩
section
variable {prog : Program} {w : World} {A : Around} {O : Type} {C : Cx (O × Option (List V))} {L : Addr} {cd : Value} {X : Nat → Led → Shared → (Value → Shared → Prop) → Prop}
noncomputable abbrev TB (prog : Program) (w : World) (A : Around) (C : Cx (O × Option (List V))) (L : Addr) (cd : Value) (X : Nat → Led → Shared → (Value → Shared → Prop) → Prop) := BlOk prog w A C (tE L cd) X
theorem tell_first (IK : IfcOk prog w A C (tE L cd) (tellI O) X 0) {o : O} {tv : List V} {T M : List Nat} {posix : Bool} (hT : T.length ≤ 100) {s : TS} (hk : s.k < T.length) {R : (O × Option (List V)) × Loc × Fl}
    (h : BlOk prog w A C (tE L cd) X (o, some tv) (r1 T M posix s.token s.kind T[s.k] (s.k + 1) s.late) ((wbody tW).drop 1) R) : BlOk prog w A C (tE L cd) X (o, some tv) (tRho T M posix s) (wbody tW) R := by
  have hb : wbody tW = hdS (wbody tW) 0 :: (wbody tW).drop 1 := by kernel_rfl
  have h0 := tell_0 O o tv L cd (S T) (S s.token) (kindS s.kind) (S M) (s.k : Int) (s.late : Int) posix
  have ok : strOk (S T) = true := strOk_S (by lia)
  have g1 : decide (-(T.length : Int) ≤ (s.k : Int)) = true := decide_eq_true (by lia)
  have g2 : decide ((s.k : Int) < (T.length : Int)) = true := decide_eq_true (by lia)
  have hk1 : ((s.k : Int) + 1) = ((s.k + 1 : Nat) : Int) := by lia
  simp only [ok, len_S, g1, g2, Bool.and_self, cond_true, item_S hk, hk1] at h0
  rw [hb]
  exact bl_next (runS_ok IK h0) (bl_weak h ⟨rfl, rfl, rfl, rfl, rfl, rfl, rfl, rfl, trivial⟩)
theorem tell_second (IK : IfcOk prog w A C (tE L cd) (tellI O) X 0) {o : O} {tv : List V} {T M : List Nat} {posix : Bool} (hT : T.length ≤ 100) {token : List Nat} {kind c k1 late : Nat} (hk : k1 ≤ T.length) :
    ∃ ρ, StOk prog w A C (tE L cd) X (o, some tv) (r1 T M posix token kind c k1 late) (hdS (wbody tW) 1) ((o, some tv), ρ, if c = 35 ∧ posix = false then .cont else .next) ∧ sle (r1 T M posix token kind c (pastC T c k1 late).1 (pastC T c k1 late).2) ρ := by
  have ok : strOk (S T) = true := strOk_S (by lia)
  have hf := find3_S (T := T) (c := 10) hk
  unfold pastC
  cases posix with
  | true =>
    have h1 := tell_1t O o tv L cd (S [c]) (S T) (S token) (kindS kind) (S M) (k1 : Int) (late : Int)
    simp only [lit35, lit10, strEq_S, ok, len_S, cond_true, hf] at h1
    by_cases hc : c = 35
    · subst hc
      simp only [beq_self_eq_true, cond_true] at h1
      rcases firstAt_bd 10 (T.drop k1) k1 with e | ⟨j, e, hj⟩
      · rw [e] at h1 ⊢
        exact ⟨_, runS_ok IK h1, ⟨rfl, rfl, rfl, rfl, rfl, rfl, rfl, rfl, trivial⟩⟩
      · rw [e] at h1 ⊢
        have hz : (((k1 + j : Nat) : Int) + 1 == 0) = false := by simp; lia
        have hz' : ¬ (((k1 + j : Nat) : Int) + 1 = 0) := by lia
        rw [hz] at h1
        rw [if_pos rfl, if_neg hz']
        have e2 : (((k1 + j : Nat) : Int) + 1) = (((((k1 + j : Nat) : Int) + 1).toNat : Nat) : Int) := by lia
        rw [e2] at h1
        exact ⟨_, runS_ok IK h1, ⟨rfl, rfl, rfl, rfl, rfl, rfl, rfl, rfl, trivial⟩⟩
    · have e1 : ([c] == [35]) = false := by simp [hc]
      simp only [e1, cond_false] at h1
      rw [if_neg hc]
      exact ⟨_, by simpa [hc] using runS_ok IK h1, ⟨rfl, rfl, rfl, rfl, rfl, rfl, rfl, rfl, trivial⟩⟩
  | false =>
    have h1 := tell_1f O o tv L cd (S [c]) (S T) (S token) (kindS kind) (S M) (k1 : Int) (late : Int)
    simp only [lit35, lit10, strEq_S, ok, len_S, cond_true, hf] at h1
    by_cases hc : c = 35
    · subst hc
      simp only [beq_self_eq_true, cond_true] at h1
      rcases firstAt_bd 10 (T.drop k1) k1 with e | ⟨j, e, hj⟩
      · rw [e] at h1 ⊢
        exact ⟨_, runS_ok IK h1, ⟨rfl, rfl, rfl, rfl, rfl, rfl, rfl, rfl, trivial⟩⟩
      · rw [e] at h1 ⊢
        have hz : (((k1 + j : Nat) : Int) + 1 == 0) = false := by simp; lia
        have hz' : ¬ (((k1 + j : Nat) : Int) + 1 = 0) := by lia
        rw [hz] at h1
        rw [if_pos rfl, if_neg hz']
        have e2 : (((k1 + j : Nat) : Int) + 1) = (((((k1 + j : Nat) : Int) + 1).toNat : Nat) : Int) := by lia
        rw [e2] at h1
        exact ⟨_, runS_ok IK h1, ⟨rfl, rfl, rfl, rfl, rfl, rfl, rfl, rfl, trivial⟩⟩
    · have e1 : ([c] == [35]) = false := by simp [hc]
      simp only [e1, cond_false] at h1
      rw [if_neg hc]
      exact ⟨_, by simpa [hc] using runS_ok IK h1, ⟨rfl, rfl, rfl, rfl, rfl, rfl, rfl, rfl, trivial⟩⟩
end
theorem kindS_run (kind : Nat) (h : kind ≤ 2) : strEq (kindS kind) (S [114, 117, 110]) = decide (kind = 1) := by
  match kind, h with
  | 0, _ => decide +kernel
  | 1, _ => decide +kernel
  | 2, _ => decide +kernel
section
variable {prog : Program} {w : World} {A : Around} {O : Type} {C : Cx (O × Option (List V))} {L : Addr} {cd : Value} {X : Nat → Led → Shared → (Value → Shared → Prop) → Prop}
theorem tell_third (IK : IfcOk prog w A C (tE L cd) (tellI O) X 0) {o : O} {tv : List V} {T M : List Nat} {posix : Bool} (hT : T.length ≤ 100) {token : List Nat} {kind c k late : Nat} (hk : k ≤ T.length) (hkind : kind ≤ 2) {R : (O × Option (List V)) × Loc × Fl}
    (h : BlOk prog w A C (tE L cd) X (o, some tv) (r5 T M posix token kind c k late (lineAt T k late) (grownL posix M kind c)) ((wbody tW).drop 5) R) : BlOk prog w A C (tE L cd) X (o, some tv) (r1 T M posix token kind c k late) ((wbody tW).drop 2) R := by
  have hb : (wbody tW).drop 2 = hdS (wbody tW) 2 :: hdS (wbody tW) 3 :: hdS (wbody tW) 4 :: (wbody tW).drop 5 := by kernel_rfl
  have ok : strOk (S T) = true := strOk_S (by lia)
  have h2 := tell_2 O o tv L cd (S [c]) (S T) (S token) (kindS kind) (S M) (k : Int) (late : Int) posix
  have hl : (1 : Int) + ((T.take k).count 10 : Nat) + (late : Int) = (lineAt T k late : Nat) := by unfold lineAt; lia
  simp only [ok, cond_true, lit10, take_S hk, count_S, hl] at h2
  rw [hb]
  refine bl_next (runS_ok IK h2) ?_
  have h3 : StOk prog w A C (tE L cd) X (o, some tv) (("line", .int (lineAt T k late : Nat)) :: r1 T M posix token kind c k late) (hdS (wbody tW) 3) ((o, some tv), ("grown", .bool (inWL posix M c || decide (c ∈ if posix = true then [39, 34, 92] else [39, 34]))) :: ("line", .int (lineAt T k late : Nat)) :: r1 T M posix token kind c k late, .next) := by
    cases posix with
    | true =>
      have h3 := tell_3t O o tv L cd (S [c]) (S T) (S token) (kindS kind) (S M) (k : Int) (late : Int) (lineAt T k late : Nat)
      simp only [inWord_S, litq3, cont_S] at h3
      cases hw : inWL true M c with
      | true => replace h3 := h3.trans (ct hw); exact runS_ok IK h3
      | false => replace h3 := h3.trans (cf hw); exact runS_ok IK h3
    | false =>
      have h3 := tell_3f O o tv L cd (S [c]) (S T) (S token) (kindS kind) (S M) (k : Int) (late : Int) (lineAt T k late : Nat)
      simp only [inWord_S, litq2, cont_S] at h3
      cases hw : inWL false M c with
      | true => replace h3 := h3.trans (ct hw); exact runS_ok IK h3
      | false => replace h3 := h3.trans (cf hw); exact runS_ok IK h3
  refine bl_next h3 ?_
  have h4 := tell_4 O o tv L cd (S [c]) (S T) (S token) (kindS kind) (S M) (k : Int) (late : Int) (lineAt T k late : Nat) posix (inWL posix M c || decide (c ∈ if posix = true then [39, 34, 92] else [39, 34]))
  simp only [litrun, kindS_run kind hkind, cont_S] at h4
  unfold grownL at h
  by_cases h1 : kind = 1
  · subst h1
    simp only [decide_true, cond_true] at h4
    rw [if_pos rfl] at h
    exact bl_next (runS_ok IK h4) (bl_weak h ⟨rfl, rfl, rfl, rfl, rfl, rfl, rfl, rfl, rfl, rfl, trivial⟩)
  · replace h4 := h4.trans (cf (decide_eq_false h1))
    rw [if_neg h1] at h
    exact bl_next (runS_ok IK h4) (bl_weak h ⟨rfl, rfl, rfl, rfl, rfl, rfl, rfl, rfl, rfl, rfl, trivial⟩)
end
theorem pieceL_len (m : Nat) : ∀ n (r : List Nat), r.length ≤ n → ∀ a, (pieceL m r a).1.length + 2 * (pieceL m r a).2.1.length ≤ max (a.length) 1 + 2 * r.length := by
  intro n
  induction n with
  | zero => intro r hr a; have : r = [] := List.eq_nil_of_length_eq_zero (by lia); subst this; unfold pieceL; simp; lia
  | succ n ih =>
    intro r hr a
    cases r with
    | nil => unfold pieceL; simp; lia
    | cons c r =>
      simp only [List.length_cons] at hr ⊢
      unfold pieceL
      split
      · simp; lia
      · split
        · simp; lia
        · split
          · split
            · simp; lia
            · rename_i d r'
              simp only [List.length_cons] at hr ⊢
              have h := ih r' (by lia) (a ++ if d = 34 ∨ d = 92 then [d] else [92, d])
              have h2 : (a ++ if d = 34 ∨ d = 92 then [d] else [92, d]).length ≤ a.length + 2 := by split <;> simp
              lia
          · have h := ih r (by lia) (a ++ [c])
            have h2 : (a ++ [c]).length = a.length + 1 := by simp
            lia
theorem faultS_nil (n : Nat) : strEq (faultS n) (ofString "") = decide (n = 0) := by
  match n with
  | 0 => decide +kernel
  | 1 => decide +kernel
  | n + 2 =>
    rw [decide_eq_false (by lia)]
    show strEq (ofString "No escaped character") (ofString "") = false
    decide +kernel
theorem faultS_esc (n : Nat) : strEq (faultS n) (ofString "No escaped character") = !decide (n ≤ 1) := by
  match n with
  | 0 => decide +kernel
  | 1 => decide +kernel
  | n + 2 =>
    rw [decide_eq_false (by lia)]
    show strEq (ofString "No escaped character") (ofString "No escaped character") = !false
    decide +kernel
theorem mem_ws (c : Nat) : Txt.contains (ofString " \t\x0d\n#") (S [c]) = decide (c ∈ [32, 9, 13, 10, 35]) := by rw [litws, cont_S]
section
variable {prog : Program} {w : World} {A : Around} {O : Type} {C : Cx (O × Option (List V))} {L : Addr} {cd : Value} {X : Nat → Led → Shared → (Value → Shared → Prop) → Prop}
noncomputable def TellDid (prog : Program) (w : World) (A : Around) (C : Cx (O × Option (List V))) (L : Addr) (cd : Value) (X : Nat → Led → Shared → (Value → Shared → Prop) → Prop) (o : O) (told : List (List Nat × Nat)) (T M : List Nat) (posix : Bool) (ρ : Loc) (b : List Stmt) : TOut → Prop
  | .go s' => ∃ ρ' fl, (fl = .next ∨ fl = .cont) ∧ BlOk prog w A C (tE L cd) X (o, some (toldV told)) ρ b ((o, some (toldV s'.told)), ρ', fl) ∧ sle (tRho T M posix s') ρ'
  | .fin td wd cc tk ln => ∃ ρ', BlOk prog w A C (tE L cd) X (o, some (toldV told)) ρ b ((o, none), ρ', .ret (finV td wd cc tk ln))
theorem toldV_app (l : List (List Nat × Nat)) (a : List Nat) (n : Nat) : toldV l ++ [.tuple [.str (S a), .int (n : Int)]] = toldV (l ++ [(a, n)]) := by unfold toldV; simp
theorem did_go (IK : IfcOk prog w A C (tE L cd) (tellI O) X 0) {o : O} {told : List (List Nat × Nat)} {T M : List Nat} {posix : Bool} {ρ ρ' : Loc} {st : Stmt} {s' : TS} (h : runS (tellI O) (tE L cd) 60 (o, some (toldV told)) ρ st = some ((o, some (toldV s'.told)), ρ', .next)) (hs : sle (tRho T M posix s') ρ') :
    TellDid prog w A C L cd X o told T M posix ρ [st] (.go s') := ⟨ρ', .next, .inl rfl, bl_next (runS_ok IK h) bl_nil, hs⟩
theorem did_fin (IK : IfcOk prog w A C (tE L cd) (tellI O) X 0) {o : O} {told : List (List Nat × Nat)} {T M : List Nat} {posix : Bool} {ρ ρ' : Loc} {st : Stmt} {wd c : Nat} {tk : List Nat} {ln : Nat} (h : runS (tellI O) (tE L cd) 60 (o, some (toldV told)) ρ st = some ((o, none), ρ', .ret (finV told wd c tk ln))) :
    TellDid prog w A C L cd X o told T M posix ρ [st] (.fin told wd c tk ln) := ⟨ρ', bl_stop (runS_ok IK h) fun _ _ e => by cases e⟩
theorem tb5 : (wbody tW).drop 5 = [hdS (wbody tW) 5] := by kernel_rfl
theorem tell_run (IK : IfcOk prog w A C (tE L cd) (tellI O) X 0) {o : O} {told : List (List Nat × Nat)} {T M : List Nat} {posix : Bool} {token : List Nat} {c k late line : Nat} {grown : Bool} (hk1 : 1 ≤ k) (htok : token.length ≤ 1000) (htl : told.length ≤ 900) :
    TellDid prog w A C L cd X o told T M posix (r5 T M posix token 1 c k late line grown) ((wbody tW).drop 5) (tellTail T M posix 1 token told c k late line grown) := by
  have okt : strOk (S token) = true := strOk_S (by lia)
  have okc : strOk (S [c]) = true := strOk_S (by simp)
  have okl : Nat.ble (toldV told).length 1000 = true := Nat.ble_eq_true_of_le (by unfold toldV; rw [List.length_map]; lia)
  have hkm : (k : Int) - 1 = ((k - 1 : Nat) : Int) := by lia
  rw [tb5]
  unfold tellTail
  cases posix with
  | true =>
    have h := tell_5rt O o (toldV told) L cd (S [c]) (S T) (S token) (S M) (k : Int) (late : Int) (line : Int) grown
    simp only [okl, mem_ws, okt, okc, Bool.and_self, cond_true, app_S, toldV_app, hkm] at h
    by_cases h1 : c ∈ [32, 9, 13, 10, 35]
    · rw [if_pos h1, if_pos (by decide)]
      replace h := h.trans (ct (decide_eq_true h1))
      exact did_go IK h ⟨rfl, rfl, rfl, rfl, rfl, rfl, rfl, trivial⟩
    · rw [if_neg h1]
      replace h := h.trans (cf (decide_eq_false h1))
      cases grown with
      | false => rw [if_pos (by decide)]; exact did_go IK h ⟨rfl, rfl, rfl, rfl, rfl, rfl, rfl, trivial⟩
      | true => rw [if_neg (by decide), if_pos (Or.inl rfl)]; exact did_go IK h ⟨rfl, rfl, rfl, rfl, rfl, rfl, rfl, trivial⟩
  | false =>
    have h := tell_5rf O o (toldV told) L cd (S [c]) (S T) (S token) (S M) (k : Int) (late : Int) (line : Int) grown
    simp only [okl, mem_ws, okt, okc, Bool.and_self, cond_true, app_S, toldV_app, hkm] at h
    by_cases h1 : c ∈ [32, 9, 13, 10, 35]
    · rw [if_pos h1, if_pos (by decide)]
      replace h := h.trans (ct (decide_eq_true h1))
      exact did_go IK h ⟨rfl, rfl, rfl, rfl, rfl, rfl, rfl, trivial⟩
    · rw [if_neg h1]
      replace h := h.trans (cf (decide_eq_false h1))
      cases grown with
      | false => rw [if_pos (by decide)]; exact did_go IK h ⟨rfl, rfl, rfl, rfl, rfl, rfl, rfl, trivial⟩
      | true => rw [if_neg (by decide), if_pos (Or.inl rfl)]; exact did_go IK h ⟨rfl, rfl, rfl, rfl, rfl, rfl, rfl, trivial⟩
theorem len_one (c : Nat) : ((S [c]).length == 1) = true := by simp [Str.length]
theorem piece_sub (T : List Nat) (c k : Nat) (hk : k ≤ T.length) : (pieceL c (T.drop k) []).1.length ≤ 1 + 2 * T.length := by
  have := pieceL_len c _ (T.drop k) (Nat.le_refl _) []
  simp at this
  lia
theorem tell_word (IK : IfcOk prog w A C (tE L cd) (tellI O) X 0) {o : O} {told : List (List Nat × Nat)} {T M : List Nat} {posix : Bool} (hT : T.length ≤ 100) {token : List Nat} {c k late line : Nat} {grown : Bool} (hk : k ≤ T.length) (hk1 : 1 ≤ k) (htok : token.length ≤ 1000) (htl : told.length ≤ 900) :
    TellDid prog w A C L cd X o told T M posix (r5 T M posix token 2 c k late line grown) ((wbody tW).drop 5) (tellTail T M posix 2 token told c k late line grown) := by
  have ok : strOk (S T) = true := strOk_S (by lia)
  have okt : strOk (S token) = true := strOk_S (by lia)
  have okc : strOk (S [c]) = true := strOk_S (by simp)
  have okl : Nat.ble (toldV told).length 1000 = true := Nat.ble_eq_true_of_le (by unfold toldV; rw [List.length_map]; lia)
  have hkm : (k : Int) - 1 = ((k - 1 : Nat) : Int) := by lia
  rw [tb5]
  unfold tellTail
  cases posix with
  | true =>
    have h := tell_5wt O o (toldV told) L cd (S [c]) (S T) (S token) (S M) (k : Int) (late : Int) (line : Int) grown
    have g1 : Nat.ble T.length 100 = true := Nat.ble_eq_true_of_le hT
    have hcnt : (1 : Int) + ((T.count 10 : Nat) : Int) = ((1 + T.count 10 : Nat) : Int) := by lia
    have g2 : decide (0 ≤ (k : Int)) = true := decide_eq_true (by lia)
    have g3 : decide ((k : Int) ≤ (T.length : Int)) = true := decide_eq_true (by lia)
    have okp : strOk (S (pieceL c (T.drop k) []).1) = true := strOk_S (by have := piece_sub T c k hk; lia)
    have e1 : (S [c]).cps.toList.headD 0 = c := by simp
    have e2 : (S T).cps.toList = T := by simp
    simp only [okl, mem_ws, okt, okc, Bool.and_self, cond_true, app_S, toldV_app, hkm, litq3, cont_S, g1, g2, len_S T, g3, len_one, e1, e2, Int.toNat_natCast, okp, faultS_nil, faultS_esc, lit10, count_S, hcnt] at h
    by_cases h1 : c ∈ [32, 9, 13, 10, 35]
    · rw [if_pos h1, if_pos (by decide)]
      replace h := h.trans (ct (decide_eq_true h1))
      exact did_go IK h ⟨rfl, rfl, rfl, rfl, rfl, rfl, rfl, trivial⟩
    · rw [if_neg h1]
      replace h := h.trans (cf (decide_eq_false h1))
      cases grown with
      | false => rw [if_pos (by decide)]; exact did_go IK h ⟨rfl, rfl, rfl, rfl, rfl, rfl, rfl, trivial⟩
      | true =>
        rw [if_neg (by decide), if_neg (by simp)]
        simp only [Bool.not_true, cond_false, cond_true] at h
        by_cases h2 : c ∈ [39, 34, 92]
        · rw [if_pos ⟨rfl, h2⟩]
          replace h := h.trans (ct (decide_eq_true h2))
          by_cases h3 : (pieceL c (T.drop k) []).2.2 = 0
          · rw [if_neg (by simpa using h3)]
            simp only [h3, decide_true, Bool.not_true, cond_false] at h
            exact did_go IK h ⟨rfl, rfl, rfl, rfl, rfl, rfl, rfl, trivial⟩
          · rw [if_pos h3]
            simp only [decide_eq_false h3, Bool.not_false, cond_true] at h
            by_cases h4 : (pieceL c (T.drop k) []).2.2 = 1
            · rw [if_pos h4]
              have h5 : decide ((pieceL c (T.drop k) []).2.2 ≤ 1) = true := decide_eq_true (by lia)
              simp only [h5, Bool.not_true, cond_false] at h
              exact did_fin IK h
            · rw [if_neg h4]
              have h5 : decide ((pieceL c (T.drop k) []).2.2 ≤ 1) = false := decide_eq_false (by lia)
              simp only [h5, Bool.not_false, cond_true, lit92] at h
              exact did_fin IK h
        · rw [if_neg (fun q => h2 q.2), if_neg (by simp), if_pos rfl]
          replace h := h.trans (cf (decide_eq_false h2))
          exact did_go IK h ⟨rfl, rfl, rfl, rfl, rfl, rfl, rfl, trivial⟩
  | false =>
    have h := tell_5wf O o (toldV told) L cd (S [c]) (S T) (S token) (S M) (k : Int) (late : Int) (line : Int) grown
    simp only [okl, mem_ws, okt, okc, Bool.and_self, cond_true, app_S, toldV_app, hkm] at h
    by_cases h1 : c ∈ [32, 9, 13, 10, 35]
    · rw [if_pos h1, if_pos (by decide)]
      replace h := h.trans (ct (decide_eq_true h1))
      exact did_go IK h ⟨rfl, rfl, rfl, rfl, rfl, rfl, rfl, trivial⟩
    · rw [if_neg h1]
      replace h := h.trans (cf (decide_eq_false h1))
      cases grown with
      | false => rw [if_pos (by decide)]; exact did_go IK h ⟨rfl, rfl, rfl, rfl, rfl, rfl, rfl, trivial⟩
      | true =>
        rw [if_neg (by decide), if_neg (by simp), if_neg (by simp), if_neg (by simp), if_pos rfl]
        exact did_go IK h ⟨rfl, rfl, rfl, rfl, rfl, rfl, rfl, trivial⟩
theorem tell_nil (IK : IfcOk prog w A C (tE L cd) (tellI O) X 0) {o : O} {told : List (List Nat × Nat)} {T M : List Nat} {posix : Bool} (hT : T.length ≤ 100) {token : List Nat} {c k late line : Nat} {grown : Bool} (hk : k ≤ T.length) (hk1 : 1 ≤ k) (htok : token = []) (htl : told.length ≤ 900) :
    TellDid prog w A C L cd X o told T M posix (r5 T M posix token 0 c k late line grown) ((wbody tW).drop 5) (tellTail T M posix 0 token told c k late line grown) := by
  subst htok
  have ok : strOk (S T) = true := strOk_S (by lia)
  have okt : strOk (S []) = true := strOk_S (by simp)
  have okc : strOk (S [c]) = true := strOk_S (by simp)
  have okl : Nat.ble (toldV told).length 1000 = true := Nat.ble_eq_true_of_le (by unfold toldV; rw [List.length_map]; lia)
  have hkm : (k : Int) - 1 = ((k - 1 : Nat) : Int) := by lia
  have hcnt : (1 : Int) + ((T.count 10 : Nat) : Int) = ((1 + T.count 10 : Nat) : Int) := by lia
  rw [tb5]
  unfold tellTail
  cases posix with
  | true =>
    have h := tell_5nt O o (toldV told) L cd (S [c]) (S T) (S []) (S M) (k : Int) (late : Int) (line : Int) grown
    have g1 : Nat.ble T.length 100 = true := Nat.ble_eq_true_of_le hT
    have g2 : decide (0 ≤ (k : Int)) = true := decide_eq_true (by lia)
    have g3 : decide ((k : Int) ≤ (T.length : Int)) = true := decide_eq_true (by lia)
    have okp : strOk (S (pieceL c (T.drop k) []).1) = true := strOk_S (by have := piece_sub T c k hk; lia)
    have e1 : (S [c]).cps.toList.headD 0 = c := by simp
    have e2 : (S T).cps.toList = T := by simp
    simp only [okl, mem_ws, okt, okc, Bool.and_self, cond_true, app_S, toldV_app, hkm, litq3, cont_S, g1, g2, len_S T, g3, len_one, e1, e2, Int.toNat_natCast, okp, faultS_nil, faultS_esc, lit10, count_S, hcnt, lit92, strEq_S, litq2] at h
    by_cases h1 : c ∈ [32, 9, 13, 10, 35]
    · rw [if_pos h1, if_neg (by decide)]
      replace h := h.trans (ct (decide_eq_true h1))
      exact did_go IK h ⟨rfl, rfl, rfl, rfl, rfl, rfl, rfl, trivial⟩
    · rw [if_neg h1, if_neg (by simp)]
      replace h := h.trans (cf (decide_eq_false h1))
      by_cases hrun : c ∈ M ∧ c ≠ 92
      · have e3 : ([c] == [92]) = false := by simp [hrun.2]
        rw [if_pos (Or.inr ⟨rfl, hrun.1, fun q => hrun.2 q.2⟩)]
        simp only [decide_eq_true hrun.1, e3, Bool.not_false, cond_true] at h
        exact did_go IK h ⟨rfl, rfl, rfl, rfl, rfl, rfl, rfl, trivial⟩
      · rw [if_neg (by rintro (q | ⟨_, q1, q2⟩); · cases q
                       · exact hrun ⟨q1, fun q => q2 ⟨rfl, q⟩⟩)]
        have h' : runS (tellI O) (tE L cd) 60 (o, some (toldV told)) (r5 T M true [] 0 c k late line grown) (hdS (wbody tW) 5) = _ := h
        have hrest : ∀ {α : Type} {x y : α}, (bif decide (c ∈ M) then bif !([c] == [92]) then x else y else y) = y := by
          intro α x y
          by_cases hm : c ∈ M
          · have : c = 92 := by
              by_cases q : c = 92
              · exact q
              · exact absurd ⟨hm, q⟩ hrun
            simp [hm, this]
          · simp [hm]
        rw [hrest] at h
        by_cases h2 : c ∈ [39, 34, 92]
        · rw [if_pos ⟨rfl, h2⟩]
          replace h := h.trans (ct (decide_eq_true h2))
          by_cases h3 : (pieceL c (T.drop k) []).2.2 = 0
          · rw [if_neg (by simpa using h3)]
            simp only [h3, decide_true, Bool.not_true, cond_false] at h
            exact did_go IK h ⟨rfl, rfl, rfl, rfl, rfl, rfl, rfl, trivial⟩
          · rw [if_pos h3]
            simp only [decide_eq_false h3, Bool.not_false, cond_true] at h
            by_cases h4 : (pieceL c (T.drop k) []).2.2 = 1
            · rw [if_pos h4]
              have h5 : decide ((pieceL c (T.drop k) []).2.2 ≤ 1) = true := decide_eq_true (by lia)
              simp only [h5, Bool.not_true, cond_false] at h
              exact did_fin IK h
            · rw [if_neg h4]
              have h5 : decide ((pieceL c (T.drop k) []).2.2 ≤ 1) = false := decide_eq_false (by lia)
              simp only [h5, Bool.not_false, cond_true] at h
              exact did_fin IK h
        · rw [if_neg (fun q => h2 q.2)]
          replace h := h.trans (cf (decide_eq_false h2))
          have h6 : ¬ (c ∈ [39, 34]) := fun q => h2 (by simp at q ⊢; lia)
          rw [if_neg (fun q => h6 q.2)]
          replace h := h.trans (cf (decide_eq_false h6))
          cases grown with
          | true => rw [if_pos rfl]; exact did_go IK h ⟨rfl, rfl, rfl, rfl, rfl, rfl, rfl, trivial⟩
          | false => rw [if_neg (by decide)]; exact did_go IK h ⟨rfl, rfl, rfl, rfl, rfl, rfl, rfl, trivial⟩
  | false =>
    have h := tell_5nf O o (toldV told) L cd (S [c]) (S T) (S []) (S M) (k : Int) (late : Int) (line : Int) grown
    have hf := find3_S (T := T) (c := c) hk
    have hd1 : Txt.slice (S T) (some ((k - 1 : Nat) : Int)) none = S (T.drop (k - 1)) := drop_S (by lia)
    simp only [okl, mem_ws, ok, okt, okc, Bool.and_self, cond_true, app_S, toldV_app, hkm, litq2, cont_S, lit10, count_S, hcnt, hf, hd1] at h
    by_cases h1 : c ∈ [32, 9, 13, 10, 35]
    · rw [if_pos h1, if_neg (by decide)]
      replace h := h.trans (ct (decide_eq_true h1))
      exact did_go IK h ⟨rfl, rfl, rfl, rfl, rfl, rfl, rfl, trivial⟩
    · rw [if_neg h1, if_neg (by simp)]
      replace h := h.trans (cf (decide_eq_false h1))
      by_cases hm : c ∈ M
      · rw [if_pos (Or.inr ⟨rfl, hm, fun q => by cases q.1⟩)]
        replace h := h.trans (ct (decide_eq_true hm))
        exact did_go IK h ⟨rfl, rfl, rfl, rfl, rfl, rfl, rfl, trivial⟩
      · rw [if_neg (by rintro (q | ⟨_, q1, q2⟩); · cases q
                       · exact hm q1), if_neg (fun q => by cases q.1)]
        replace h := h.trans (cf (decide_eq_false hm))
        by_cases h6 : c ∈ [39, 34]
        · rw [if_pos ⟨rfl, h6⟩]
          replace h := h.trans (ct (decide_eq_true h6))
          rcases firstAt_bd c (T.drop k) k with e | ⟨j, e, hj⟩
          · rw [e] at h ⊢
            rw [if_pos (by decide)]
            exact did_fin IK h
          · rw [e] at h ⊢
            rw [List.length_drop] at hj
            have hn : ¬ (((k + j : Nat) : Int) < 0) := by lia
            have hs1 : Txt.slice (S T) (some ((k - 1 : Nat) : Int)) (some ((k + j + 1 : Nat) : Int)) = S ((T.drop (k - 1)).take (k + j + 1 - (k - 1))) := mid_S (T := T) (i := k - 1) (j := k + j + 1) (by lia) (by lia)
            have hs2 : Txt.slice (S T) none (some ((k + j : Nat) : Int)) = S (T.take (k + j)) := take_S (by lia)
            have hcn : (1 : Int) + (((T.take (k + j)).count 10 : Nat) : Int) = ((1 + (T.take (k + j)).count 10 : Nat) : Int) := by lia
            have hk2 : ((k + j : Nat) : Int) + 1 = ((k + j + 1 : Nat) : Int) := by lia
            rw [if_neg hn]
            simp only [decide_eq_false hn, cond_false, hk2, hs1, hs2, count_S, hcn, toldV_app] at h
            simp only [Int.toNat_natCast]
            exact did_go IK h ⟨rfl, rfl, rfl, rfl, rfl, rfl, rfl, trivial⟩
        · rw [if_neg (fun q => h6 q.2)]
          replace h := h.trans (cf (decide_eq_false h6))
          cases grown with
          | true => rw [if_pos rfl]; exact did_go IK h ⟨rfl, rfl, rfl, rfl, rfl, rfl, rfl, trivial⟩
          | false => rw [if_neg (by decide)]; exact did_go IK h ⟨rfl, rfl, rfl, rfl, rfl, rfl, rfl, trivial⟩
end
structure TInv (T : List Nat) (s : TS) : Prop where
  kind : s.kind ≤ 2
  nil : s.kind = 0 → s.token = []
  len : s.token.length ≤ 2 * s.k
  k : s.k ≤ T.length
noncomputable def tMeas (T : List Nat) (s : TS) : Nat := 2 * (T.length - s.k) + (if s.kind = 0 then 0 else 1)
theorem pastC_le {T : List Nat} {c k1 late : Nat} (hk : k1 ≤ T.length) : k1 ≤ (pastC T c k1 late).1 ∧ (pastC T c k1 late).1 ≤ T.length := by
  unfold pastC
  split
  · rcases firstAt_bd 10 (T.drop k1) k1 with e | ⟨j, e, hj⟩
    · rw [e, if_pos (by decide)]; exact ⟨hk, Nat.le_refl _⟩
    · rw [List.length_drop] at hj
      rw [e, if_neg (by lia)]
      have : (((k1 + j : Nat) : Int) + 1).toNat = k1 + j + 1 := by lia
      simp only [this]; lia
  · exact ⟨Nat.le_refl _, hk⟩
theorem tm_lt' {L k k' e e' : Nat} (h0 : 1 ≤ k) (h1 : k ≤ k') (h2 : k' ≤ L) (he : e' ≤ 1) : 2 * (L - k') + e' < 2 * (L - (k - 1)) + e := by lia
theorem e_le (n : Nat) : (if n = 0 then 0 else 1) ≤ 1 := by split <;> decide
theorem tok_le {a b k k' L d : Nat} (h : a + 2 ≤ 2 * k) (hk : k ≤ L) (h1 : b + 2 * d ≤ 1 + 2 * (L - k)) (h2 : d ≤ L - k) (hk' : k' = L - d) : a + b ≤ 2 * k' ∧ k ≤ k' ∧ k' ≤ L := by lia
theorem tellTail_inv {T M : List Nat} {posix : Bool} {kind : Nat} {token : List Nat} {told : List (List Nat × Nat)} {c k late line : Nat} {grown : Bool} (hkind : kind ≤ 2) (hnil : kind = 0 → token = []) (hlen : token.length + 2 ≤ 2 * k) (hk : k ≤ T.length) (hk1 : 1 ≤ k) {s' : TS}
    (h : tellTail T M posix kind token told c k late line grown = .go s') : TInv T s' ∧ tMeas T s' < 2 * (T.length - (k - 1)) + (if kind = 0 then 0 else 1) := by
  have hl1 : (token ++ [c]).length ≤ 2 * k := by rw [List.length_append]; exact Nat.le_trans (Nat.add_le_add_left (by decide : 1 ≤ 2) _) hlen
  unfold tellTail at h
  split at h
  · obtain rfl := goInj h
    exact ⟨⟨Nat.zero_le _, fun _ => rfl, Nat.zero_le _, hk⟩, tm_lt' hk1 (Nat.le_refl _) hk (e_le 0)⟩
  split at h
  · rename_i hq
    obtain rfl := goInj h
    refine ⟨⟨Nat.zero_le _, fun _ => rfl, Nat.zero_le _, Nat.le_trans (Nat.sub_le _ _) hk⟩, ?_⟩
    rw [if_neg hq.1]
    exact Nat.lt_succ_self _
  split at h
  · obtain rfl := goInj h
    exact ⟨⟨(by decide : 1 ≤ 2), (fun e => by cases e), hl1, hk⟩, tm_lt' hk1 (Nat.le_refl _) hk (e_le 1)⟩
  split at h
  · split at h
    · cases h
    · obtain rfl := goInj h
      have h1 := pieceL_len c _ (T.drop k) (Nat.le_refl _) []
      have h2 := pieceL_le c _ (T.drop k) (Nat.le_refl _) []
      rw [List.length_drop] at h1 h2
      obtain ⟨g1, g2, g3⟩ := tok_le hlen hk h1 h2 rfl
      exact ⟨⟨(by decide : 2 ≤ 2), (fun e => by cases e), by rw [List.length_append]; exact g1, g3⟩, tm_lt' hk1 g2 g3 (e_le 2)⟩
  split at h
  · rename_i hq
    split at h
    · cases h
    · rename_i hn
      obtain rfl := goInj h
      rcases firstAt_bd c (T.drop k) k with e | ⟨j, e, hj⟩
      · rw [e] at hn; exact absurd (by decide) hn
      · rw [List.length_drop] at hj
        obtain rfl := hnil hq.1
        have e2 : (firstAt c (T.drop k) k).toNat = k + j := by rw [e]; rfl
        have h3 : k + j + 1 ≤ T.length := Nat.add_lt_of_lt_sub' hj
        rw [e2]
        exact ⟨⟨Nat.zero_le _, fun _ => rfl, Nat.zero_le _, h3⟩, tm_lt' hk1 (Nat.le_succ_of_le (Nat.le_add_right _ _)) h3 (e_le 0)⟩
  split at h
  · obtain rfl := goInj h
    exact ⟨⟨(by decide : 2 ≤ 2), (fun e => by cases e), hl1, hk⟩, tm_lt' hk1 (Nat.le_refl _) hk (e_le 2)⟩
  · obtain rfl := goInj h
    exact ⟨⟨hkind, hnil, Nat.le_trans (Nat.le_add_right _ 2) hlen, hk⟩, tm_lt' hk1 (Nat.le_refl _) hk (e_le kind)⟩
theorem tellStep_inv {T M : List Nat} {posix : Bool} {s s' : TS} {c : Nat} (hs : TInv T s) (hk : s.k < T.length) (h : tellStep T M posix s c = .go s') : TInv T s' ∧ tMeas T s' < tMeas T s := by
  unfold tellStep at h
  have hp := pastC_le (c := c) (late := s.late) (show s.k + 1 ≤ T.length by lia)
  simp only at h
  split at h
  · cases h
    refine ⟨⟨hs.kind, hs.nil, by have := hs.len; simp only; lia, hp.2⟩, ?_⟩
    unfold tMeas; simp only; split <;> lia
  · rename_i hc
    by_cases c35 : c = 35
    · subst c35
      unfold tellTail at h
      rw [if_pos (by decide)] at h
      cases h
      refine ⟨⟨by simp, fun _ => rfl, by simp, hp.2⟩, ?_⟩
      unfold tMeas; simp only [if_true]; split <;> lia
    · have e : pastC T c (s.k + 1) s.late = (s.k + 1, s.late) := by unfold pastC; rw [if_neg c35]
      rw [e] at h
      have := tellTail_inv hs.kind hs.nil (by have := hs.len; lia) (by lia) (by lia) h
      simpa [tMeas] using this
theorem tellStep_told {T M : List Nat} {posix : Bool} {s s' : TS} {c : Nat} (h : tellStep T M posix s c = .go s') : s'.told.length ≤ s.told.length + 1 := by
  unfold tellStep at h
  simp only at h
  split at h
  · cases h; simp
  · unfold tellTail at h
    split at h
    · cases h; simp only; split <;> simp
    split at h
    · cases h; simp
    split at h
    · cases h; simp
    split at h
    · split at h
      · cases h
      · cases h; simp
    split at h
    · split at h
      · cases h
      · cases h; simp
    split at h
    · cases h; simp
    · cases h; simp
noncomputable def tellRun (T M : List Nat) (posix : Bool) : Nat → TS → Option (List (List Nat × Nat) × Option (Nat × Nat × List Nat) × Nat)
  | 0, _ => none
  | n + 1, s => if h : s.k < T.length then match tellStep T M posix s T[s.k] with
      | .go s' => tellRun T M posix n s'
      | .fin td wd cc tk ln => some (td, some (wd, cc, tk), ln)
    else some (if s.kind ≠ 0 then s.told ++ [(s.token, 1 + T.count 10 + s.late)] else s.told, none, 1 + T.count 10 + s.late)
noncomputable def tellV (x : List (List Nat × Nat) × Option (Nat × Nat × List Nat) × Nat) : V :=
  .tuple [.list (toldV x.1), .tuple (match x.2.1 with | none => [.str "", .none, .str "", .int (x.2.2 : Int)] | some (wd, cc, tk) => [.str (faultS wd), .str (S [cc]), .str (S tk), .int (x.2.2 : Int)])]
section
variable {prog : Program} {w : World} {A : Around} {O : Type} {C : Cx (O × Option (List V))} {L : Addr} {cd : Value} {X : Nat → Led → Shared → (Value → Shared → Prop) → Prop}
theorem TellDid.before {o : O} {told : List (List Nat × Nat)} {T M : List Nat} {posix : Bool} {ρ ρ₁ : Loc} {st : List Stmt} {b : List Stmt} {x : TOut} (h : TellDid prog w A C L cd X o told T M posix ρ₁ b x)
    (f : ∀ R, BlOk prog w A C (tE L cd) X (o, some (toldV told)) ρ₁ b R → BlOk prog w A C (tE L cd) X (o, some (toldV told)) ρ st R) : TellDid prog w A C L cd X o told T M posix ρ st x := by
  cases x with
  | go s' => obtain ⟨ρ', fl, h1, h2, h3⟩ := h; exact ⟨ρ', fl, h1, f _ h2, h3⟩
  | fin => obtain ⟨ρ', h2⟩ := h; exact ⟨ρ', f _ h2⟩
theorem tell_turn (IK : IfcOk prog w A C (tE L cd) (tellI O) X 0) {o : O} {T M : List Nat} {posix : Bool} (hT : T.length ≤ 100) {s : TS} (hs : TInv T s) (hk : s.k < T.length) (htl : s.told.length ≤ 900) :
    TellDid prog w A C L cd X o s.told T M posix (tRho T M posix s) (wbody tW) (tellStep T M posix s T[s.k]) := by
  have hp := pastC_le (c := T[s.k]) (late := s.late) (show s.k + 1 ≤ T.length by lia)
  obtain ⟨ρ₂, h2, h2s⟩ := tell_second (posix := posix) (M := M) (o := o) (tv := toldV s.told) IK hT (token := s.token) (kind := s.kind) (c := T[s.k]) (k1 := s.k + 1) (late := s.late) (by lia)
  have hb1 : (wbody tW).drop 1 = hdS (wbody tW) 1 :: (wbody tW).drop 2 := by kernel_rfl
  unfold tellStep
  simp only
  by_cases hc : T[s.k] = 35 ∧ posix = false
  · rw [if_pos hc]
    rw [if_pos hc] at h2
    refine ⟨ρ₂, .cont, .inr rfl, tell_first IK hT hk ?_, ?_⟩
    · rw [hb1]; exact bl_stop h2 fun _ _ e => by cases e
    · obtain ⟨a1, a2, a3, a4, a5, a6, a7, a8, _⟩ := h2s
      exact ⟨a2, a3, a4, a5, a6, a7, a8, trivial⟩
  · rw [if_neg hc]
    rw [if_neg hc] at h2
    have key : TellDid prog w A C L cd X o s.told T M posix (r5 T M posix s.token s.kind T[s.k] (pastC T T[s.k] (s.k + 1) s.late).1 (pastC T T[s.k] (s.k + 1) s.late).2 (lineAt T (pastC T T[s.k] (s.k + 1) s.late).1 (pastC T T[s.k] (s.k + 1) s.late).2) (grownL posix M s.kind T[s.k])) ((wbody tW).drop 5)
        (tellTail T M posix s.kind s.token s.told T[s.k] (pastC T T[s.k] (s.k + 1) s.late).1 (pastC T T[s.k] (s.k + 1) s.late).2 (lineAt T (pastC T T[s.k] (s.k + 1) s.late).1 (pastC T T[s.k] (s.k + 1) s.late).2) (grownL posix M s.kind T[s.k])) := by
      have hl := hs.len
      rcases Nat.lt_or_ge s.kind 1 with hz | hz
      · have e : s.kind = 0 := by lia
        rw [e]
        exact tell_nil IK hT hp.2 (by lia) (hs.nil e) htl
      · rcases Nat.lt_or_ge s.kind 2 with hy | hy
        · have e : s.kind = 1 := by lia
          rw [e]
          exact tell_run IK (by lia) (by lia) htl
        · have e : s.kind = 2 := by have := hs.kind; lia
          rw [e]
          exact tell_word IK hT hp.2 (by lia) (by lia) htl
    refine key.before fun R hR => tell_first IK hT hk ?_
    rw [hb1]
    exact bl_next h2 (bl_weak (tell_third IK hT hp.2 hs.kind hR) h2s)
end
noncomputable def wpos : Stmt → Pos
  | .While _ _ _ p => p
  | _ => ⟨0, 0, 0, 0⟩
noncomputable abbrev tRes := List (List Nat × Nat) × Option (Nat × Nat × List Nat) × Nat
section
variable {prog : Program} {w : World} {A : Around} {O : Type} {C : Cx (O × Option (List V))} {L : Addr} {cd : Value} {X : Nat → Led → Shared → (Value → Shared → Prop) → Prop}
def TellEnd (o : O) (T M : List Nat) (posix : Bool) (x : tRes) (R : (O × Option (List V)) × Loc × Fl) : Prop :=
  (∃ ρ, R = ((o, none), ρ, .ret (tellV x))) ∨ ∃ s : TS, TInv T s ∧ s.told.length ≤ 900 ∧ R = ((o, some (toldV s.told)), tRho T M posix s, .next) ∧ x = (if s.kind ≠ 0 then s.told ++ [(s.token, 1 + T.count 10 + s.late)] else s.told, none, 1 + T.count 10 + s.late)
theorem tell_go (IK : IfcOk prog w A C (tE L cd) (tellI O) X 0) {o : O} {T M : List Nat} {posix : Bool} (hT : T.length ≤ 100) : ∀ m (s : TS), TInv T s → tMeas T s < m → s.told.length + tMeas T s ≤ 900 →
    ∃ x, tellRun T M posix m s = some x ∧ ∃ N R, WhileS prog w A C (tE L cd) X (wtest tW) (wbody tW) R N (o, some (toldV s.told)) (tRho T M posix s) ∧ TellEnd o T M posix x R := by
  intro m
  induction m with
  | zero => intro s _ h _; lia
  | succ m ih =>
    intro s hs hm htl
    have ok : strOk (S T) = true := strOk_S (by lia)
    have ht := tell_t O o (toldV s.told) (S T) (S s.token) (kindS s.kind) (S M) (s.k : Int) (s.late : Int) posix
    simp only [ok, cond_true, len_S] at ht
    unfold tellRun
    by_cases hk : s.k < T.length
    · rw [dif_pos hk]
      rw [decide_eq_true (show (s.k : Int) < (T.length : Int) by lia)] at ht
      have h1 := tell_turn (M := M) (posix := posix) (o := o) IK hT hs hk (by lia)
      cases e : tellStep T M posix s T[s.k] with
      | go s' =>
        rw [e] at h1
        obtain ⟨ρ', fl, hf, hb, hsl⟩ := h1
        have hi := tellStep_inv hs hk e
        obtain ⟨x, hx, N, R, hw, he⟩ := ih s' hi.1 (by lia) (by have := tellStep_told e; lia)
        exact ⟨x, hx, N + 1, R, .more (runT_ok IK ht) hb hf hsl hw, he⟩
      | fin td wd cc tk ln =>
        rw [e] at h1
        obtain ⟨ρ', hb⟩ := h1
        exact ⟨_, rfl, 0, _, .ret (runT_ok IK ht) hb rfl, .inl ⟨ρ', rfl⟩⟩
    · rw [dif_neg hk]
      rw [decide_eq_false (show ¬ (s.k : Int) < (T.length : Int) by lia)] at ht
      exact ⟨_, rfl, 0, _, .stop (runT_ok IK ht) rfl, .inr ⟨s, hs, by lia, rfl, rfl⟩⟩
theorem tell_rest (IK : IfcOk prog w A C (tE L cd) (tellI O) X 0) (hX : ∀ k fz s E, X k fz s E → X k fz s (notedBy (model prog w) A (tE L cd) (cameBackBy (model prog w) A (tE L cd) E))) {o : O} {T M : List Nat} {posix : Bool} (hT : T.length ≤ 100) :
    ∃ x, tellRun T M posix 400 ⟨0, [], 0, 0, []⟩ = some x ∧ ∃ ρ, BlOk prog w A C (tE L cd) X (o, some []) (tRho T M posix ⟨0, [], 0, 0, []⟩) ((fbody (stAt 24)).drop 1) ((o, none), ρ, .ret (tellV x)) := by
  obtain ⟨x, hx, N, R, hw, he⟩ := tell_go (M := M) (posix := posix) (o := o) IK hT 400 ⟨0, [], 0, 0, []⟩ ⟨by simp, fun _ => rfl, by simp, by simp⟩ (by unfold tMeas; simp; lia) (by unfold tMeas; simp; lia)
  refine ⟨x, hx, ?_⟩
  have hb : (fbody (stAt 24)).drop 1 = .While (wtest tW) (wbody tW) [] (wpos tW) :: hdS (fbody (stAt 24)) 2 :: hdS (fbody (stAt 24)) 3 :: [] := by kernel_rfl
  rw [hb]
  have h1 := whileS_ok (p := (wpos tW)) hX hw
  rcases he with ⟨ρ, rfl⟩ | ⟨s, hs, htl, rfl, rfl⟩
  · exact ⟨ρ, bl_stop h1 fun _ _ e => by cases e⟩
  · have okT : strOk (S T) = true := strOk_S (by lia)
    have hc : (1 : Int) + ((T.count 10 : Nat) : Int) + (s.late : Int) = ((1 + T.count 10 + s.late : Nat) : Int) := by lia
    have fin : ∀ (told : List (List Nat × Nat)), StOk prog w A C (tE L cd) X (o, some (toldV told)) (tRho T M posix s) (hdS (fbody (stAt 24)) 3) ((o, none), tRho T M posix s, .ret (tellV (told, none, 1 + T.count 10 + s.late))) := fun told => by
      have h3 := tell_7 O o (toldV told) L cd (S T) (S s.token) (kindS s.kind) (S M) (s.k : Int) (s.late : Int) posix
      simp only [lit10, count_S, hc] at h3
      exact runS_ok IK h3
    have hk := hs.kind
    have okl : Nat.ble (toldV s.told).length 1000 = true := Nat.ble_eq_true_of_le (by unfold toldV; rw [List.length_map]; lia)
    have hkc : s.kind = 0 ∨ s.kind = 1 ∨ s.kind = 2 := by lia
    refine ⟨_, bl_next h1 (bl_next (o' := (o, some (toldV (if s.kind ≠ 0 then s.told ++ [(s.token, 1 + T.count 10 + s.late)] else s.told)))) (ρ' := tRho T M posix s) ?_ (bl_stop (fin _) fun _ _ e => by cases e))⟩
    rcases hkc with e | e | e
    · have h2 := tell_6n O o (toldV s.told) L cd (S T) (S s.token) (S M) (s.k : Int) (s.late : Int) posix
      have := runS_ok IK h2
      simp only [tRho, e] at this ⊢
      exact this
    · have h2 := tell_6r O o (toldV s.told) L cd (S T) (S s.token) (S M) (s.k : Int) (s.late : Int) posix
      simp only [lit10, count_S, hc, toldV_app, okl, cond_true] at h2
      have := runS_ok IK h2
      simp only [tRho, e] at this ⊢
      exact this
    · have h2 := tell_6w O o (toldV s.told) L cd (S T) (S s.token) (S M) (s.k : Int) (s.late : Int) posix
      simp only [lit10, count_S, hc, toldV_app, okl, cond_true] at h2
      have := runS_ok IK h2
      simp only [tRho, e] at this ⊢
      exact this
end
noncomputable abbrev listObj (vs : List Value) (n : Nat) : Obj := { cls := .type "list", data := .seq vs.toArray n }
def toldRep {O : Type} (C : Cx O) (a : Addr) (o : O × Option (List V)) (fz R' : Led) : Prop := match o.2 with
  | none => C.Rep o.1 fz R'
  | some told => ∃ R vs n, R' = (a, listObj vs n) :: R ∧ C.Rep o.1 fz R ∧ DatAll fz vs told ∧ ∀ q ∈ R, q.1 ≠ a
noncomputable def toldCx {O : Type} (C : Cx O) (a : Addr) (refs : List (Str × Value)) : Cx (O × Option (List V)) :=
  { s₀ := C.s₀, h₀ := C.h₀, L := C.L, rest := C.rest, refs := refs, Rep := toldRep C a, mono := fun o fz fz' R hs h => by
      unfold toldRep at h ⊢
      split at h
      · exact C.mono _ _ _ _ hs h
      · obtain ⟨R, vs, n, e, hr, hd, hq⟩ := h
        exact ⟨R, vs, n, e, C.mono _ _ _ _ hs hr, hd.mono hs, hq⟩ }
section
variable {prog : Program} {w : World} {P : Params} {p : Program} {loose : List Str} {mean : ExcName → Option Value} {mg mb : Str → Option Value} {A₀ : Around} {base : Heap} {outer : List Env} {A : Around} {O : Type} {L : Addr} {cd : Value} {X : Nat → Led → Shared → (Value → Shared → Prop) → Prop}
theorem tellI_ok {C : Cx O} {d : Nat} (R : Rim (K02 P) p loose mean mg mb A₀ base outer A (tE L cd) C.h₀ C.L (d + 1)) (a : Addr) : IfcOk prog w A (toldCx C a [("told", .ref a)]) (tE L cd) (tellI O) X 0 where
  orc o := {
    fn := R.hk
    loc := R.hl
    names := by
      have : ∀ x : Str, x ∈ (locs (fscope (stAt 24))).filter (fun x : Str => !(x == ("told" : Str))) → (envOf "_law_tell" (fscope (stAt 24)) 0 754 cd).kindOf x = some .local := by
        show ∀ x : Str, x ∈ (locs (fscope (stAt 24))).filter (fun x : Str => !(x == ("told" : Str))) → (fscope (stAt 24)).names.lookup x = some .local
        decide +kernel
      exact this
    attr := fun a v h => by cases h
    call := fun f ds r hf ρ fz s Q E q pos args h hs hne hw => by
      obtain ⟨g, hg, hr⟩ := Option.bind_eq_some_iff.mp hf
      have hc : ∀ y ∈ tellT, PureC prog w (K02 P) p loose mean mg mb y.1 (d + 1) y.2 ∧ (tE C.L cd).kindOf y.1 = some .globalImplicit := fun y hy => by
        rcases List.mem_cons.mp hy with rfl | hy
        · exact ⟨len_pure _, by kernel_rfl⟩
        · rcases List.mem_cons.mp hy with rfl | hy
          · exact ⟨inw_pure _, by kernel_rfl⟩
          · obtain rfl := List.mem_singleton.mp hy
            exact ⟨piece_pure _, by kernel_rfl⟩
      have hm := hc _ (lookup_mem hg)
      exact hm.1 (C := toldCx C a [("told", .ref a)]) R h hm.2 args pos q ds r hr hs hne Q E hw }
  hh := R.hh
  inter := R.hi
  off := fun q hq => by
    simp only [toldCx, List.mem_singleton] at hq; subst hq
    have : ((tellI O).names.contains "told") = ((locs (fscope (stAt 24))).filter (fun x : Str => !(x == ("told" : Str)))).contains ("told" : Str) := rfl
    rw [this]; decide +kernel
  self := .inr ⟨fun _ _ => rfl, fun _ _ _ => rfl⟩
  selfK := .inr ⟨fun _ _ => rfl, fun _ _ _ => rfl⟩
  get := fun o a d h => by cases h
  set := fun o a d o' h => by cases h
  prim := fun o ρ st r h => by cases h
  push := fun o x d o' h => by
        obtain ⟨o1, o2⟩ := o
        obtain ⟨e, h⟩ := gate_of (show gate (x == "told") (opt o2 _ none) none = some (true, o') from h)
        obtain ⟨t, ht, h⟩ := opt_of h
        obtain ⟨hb, e2⟩ := Prod.mk.inj (sj h)
        rw [eq_of_beq e, ht, ← e2]
        refine ⟨a, .head _, by kernel_rfl, by decide, fun ρ fz s hA => ?_, fun ρ fz s v Q E hA hv hq => ?_⟩
        · obtain ⟨hp, tk, m, R', rfl, F, N, ⟨R1, vs, n, rfl, hr, hd, hap⟩, ap, lc, rf⟩ := hA
          exact ⟨vs.toArray, _, n, (N _ (.head _)).1, rfl, rfl, rfl⟩
        · obtain ⟨hp, tk, m, R', rfl, F, N, ⟨R1, vs, n, rfl, hr, hd, hap⟩, ap, lc, rf⟩ := hA
          have hob := N _ (.head _)
          have hln : vs.length ≤ 1000 := by rw [hd.length]; exact Nat.le_of_ble_eq_true hb
          have e : ∃ n', Obj.mapSeq (·.push v) (listObj vs n) = listObj (vs ++ [v]) n' := by
            refine ⟨if (vs.toArray.push v).size == vs.toArray.size then n else n + 1, ?_⟩
            show (⟨_, _, .seq (vs.toArray.push v) _, _⟩ : Obj) = ⟨_, _, .seq (vs ++ [v]).toArray _, _⟩
            simp only [List.push_toArray]
          obtain ⟨n', e⟩ := e
          have hsz : vs.toArray.size ≤ sizeLine := by rw [List.size_toArray, sizeLine_eq]; omega
          refine wpAny_call_entry slot_list_append (T := "list") ⟨_, hob.1, rfl⟩ entry_list_append ?_ (args_list_append _ _)
          show wpAny _ _ (updateSeq a (·.push v) >>= fun _ => ret .none) _ _ _
          refine wpAny_bind (wpAny_updateSeq hob.1 rfl (wpAny_pure ⟨.none, rfl, hq _ ?_⟩))
          have ho' : (hp.update a (Obj.mapSeq (·.push v))).get? a = some (listObj (vs ++ [v]) n') := (Heap.get?_update_self _ hob.1 (by rw [e]; rfl)).trans (by rw [e])
          have hs := Heap.SameBut.update hp a (Obj.mapSeq (·.push v))
          obtain ⟨F', N', ap'⟩ := led_turn (pre := []) (post := R1) F N ap (fun _ h => (by cases h)) hap hs ho'
          exact ⟨_, tk, m, (a, listObj (vs ++ [v]) n') :: R1, rfl, F', N', ⟨R1, vs ++ [v], n', rfl, hr, datAll_app hd (.cons hv .nil), hap⟩, ap', lc, rf⟩
  give := fun o x o' d h => by
        obtain ⟨o1, o2⟩ := o
        obtain ⟨e, h⟩ := gate_of (show gate (x == "told") (opt o2 _ none) none = some (o', d) from h)
        obtain ⟨t, ht, h⟩ := opt_of h
        obtain ⟨e1, e2⟩ := Prod.mk.inj (sj h)
        rw [eq_of_beq e, ht, ← e1, ← e2]
        refine ⟨a, .head _, by kernel_rfl, by decide, fun ρ fz s hA => ?_⟩
        obtain ⟨hp, tk, m, R', rfl, F, N, ⟨R1, vs, n, rfl, hr, hd, hap⟩, ap, lc, rf⟩ := hA
        refine ⟨(a, listObj vs n) :: fz, fun p hp => .tail _ hp, ⟨hp, tk, m, R1, rfl, F, led_give N, C.mono _ _ _ _ (fun p hp => .tail _ hp) hr, fun q hq r hr' => ?_, lc.mono fun p hp => .tail _ hp, rf⟩, .list (.head _) (hd.mono fun p hp => .tail _ hp)⟩
        rcases List.mem_cons.mp hr' with rfl | hr'
        · exact hap q hq
        · exact ap q (.tail _ hq) r hr'
end
noncomputable abbrev oTs : List Expr := [Expr.Name "told" ⟨751, 4, 751, 8⟩, Expr.Name "token" ⟨751, 10, 751, 15⟩, Expr.Name "kind" ⟨751, 17, 751, 21⟩, Expr.Name "k" ⟨751, 23, 751, 24⟩, Expr.Name "late" ⟨751, 26, 751, 30⟩]
noncomputable abbrev oEs : List Expr := [Expr.List [] ⟨751, 34, 751, 36⟩, Expr.Constant (Const.str "") 0 ⟨751, 38, 751, 40⟩, Expr.Constant (Const.str "") 0 ⟨751, 42, 751, 44⟩, Expr.Constant (Const.int 0) 0 ⟨751, 46, 751, 47⟩, Expr.Constant (Const.int 0) 0 ⟨751, 49, 751, 50⟩]
theorem open_is : hdS (fbody (stAt 24)) 0 = Stmt.Assign [Expr.Tuple oTs 0 ⟨751, 4, 751, 30⟩] (Expr.Tuple oEs 0 ⟨751, 33, 751, 51⟩) ⟨751, 4, 751, 51⟩ := by kernel_rfl
theorem open_swap (L : Addr) (cd : Value) : swapR oTs 0 ⟨751, 4, 751, 30⟩ (Expr.Tuple oEs 0 ⟨751, 33, 751, 51⟩) (tE L cd) = some none := by kernel_rfl
section
variable {prog : Program} {w : World} {P : Params} {p : Program} {loose : List Str} {mean : ExcName → Option Value} {mg mb : Str → Option Value} {A₀ : Around} {base : Heap} {outer : List Env} {A : Around} {O : Type} {L : Addr} {cd : Value} {X : Nat → Led → Shared → (Value → Shared → Prop) → Prop}
theorem At.newList {C : Cx O} {o : O} {ρ : Loc} {fz : Led} {s : Shared} (h : At C o ρ fz s) : At (toldCx C s.heap.objs.size []) (o, some []) ρ fz { s with heap := s.heap.push (listObj [] 0) } := by
  obtain ⟨hp, tk, m, R, rfl, F, N, rp, ap, lc, rf⟩ := h
  have N' := N.push F (listObj [] 0) rfl
  have fresh : ∀ q ∈ R ++ (fz ++ C.rest), q.1 ≠ hp.objs.size := fun q hq => Nat.ne_of_lt (Heap.lt_size (N q hq).1)
  refine ⟨_, tk, m, (hp.objs.size, listObj [] 0) :: R, rfl, F.push _, N', ⟨R, [], 0, rfl, rp, .nil, fun q hq => fresh q (List.mem_append_left _ hq)⟩, fun q hq r hr => ?_, lc, fun q hq => by cases hq⟩
  rcases List.mem_cons.mp hq with rfl | hq
  · exact fun z => fresh r (List.mem_append_right _ hr) z.symm
  · exact ap q hq r hr
theorem At.bindRef {C : Cx O} {o : O} {ρ : Loc} {fz : Led} {s : Shared} {x : Str} {a : Addr} {Q : Unit → Shared → Prop} {E : Value → Shared → Prop} {env : Env} (h : At C o ρ fz s) (hr : C.refs = []) (hx : env.kindOf x = some .local) (hl : env.locals = C.L) (hk : env.scope.kind = .function) (hρ : ρ.lookup x = none)
    (hq : ∀ h' tk m' R, Fr C.h₀ C.L h' m' → News C.h₀ C.L h' (R ++ (fz ++ C.rest)) → C.Rep o fz R → Apart R (fz ++ C.rest) → (∀ y v, ρ.lookup y = some v → ∃ v', m' y = some v' ∧ VR fz v v') → m' x = some (.ref a) → Q () { C.s₀ with heap := h', toks := tk }) : wpAny (model prog w) A (storeName env x (.ref a)) Q E s := by
  obtain ⟨hp, tk, m, R, rfl, F, N, rp, ap, lc, rf⟩ := h
  refine wpAny_storeName_local hx (by rw [hl]; exact F.ns) (fun h2 hn hs => ?_) (by rw [hk]; rfl)
  rw [hl] at hn hs
  refine hq h2 (tk + 1) _ R (F.set hn hs) (N.set hs) rp ap (fun y u hy => ?_) (if_pos rfl)
  have e : y ≠ x := fun e => by rw [e, hρ] at hy; cases hy
  obtain ⟨v', h1, h2'⟩ := lc y u hy
  exact ⟨v', by rw [if_neg e]; exact h1, h2'⟩
theorem tell_open {C : Cx O} {d : Nat} (R : Rim (K02 P) p loose mean mg mb A₀ base outer A (tE L cd) C.h₀ C.L (d + 1)) {o : O} {T M : List Nat} {posix : Bool} {fz : Led} {s : Shared} {Q : Flow → Shared → Prop} {E : Value → Shared → Prop}
    (h : At C o [("text", .str (S T)), ("posix", .bool posix), ("marks", .str (S M))] fz s)
    (hq : ∀ a fz' s', Sub fz fz' → At (toldCx C a [("told", .ref a)]) (o, some []) (tRho T M posix ⟨0, [], 0, 0, []⟩) fz' s' → Q .next s') : wpAny (model prog w) A (exec (hdS (fbody (stAt 24)) 0) (tE L cd)) Q E s := by
  rw [open_is]
  refine Assign_Tuple (wpAny_Tuple (args_cons (wpAny_List (args_nil ⟨by simp, ?_⟩)) rfl)) (by unfold swapsWithSole; exact swap_off rfl) (swapR_is (open_swap L cd))
  have h1 := h.newList
  have ev := evs_cons (prog := prog) (w := w) (A := A) (C := toldCx C s.heap.objs.size []) (o := (o, some [])) (env := tE L cd) (ρ := [("text", .str (S T)), ("posix", .bool posix), ("marks", .str (S M))]) (e := Expr.Constant (Const.str "") 0 ⟨751, 38, 751, 40⟩) (v := .str (ofString "")) rfl (ev_const rfl)
    (evs_cons (e := Expr.Constant (Const.str "") 0 ⟨751, 42, 751, 44⟩) (v := .str (ofString "")) rfl (ev_const rfl) (evs_cons (e := Expr.Constant (Const.int 0) 0 ⟨751, 46, 751, 47⟩) (v := .int 0) rfl (ev_const rfl) (evs_cons (e := Expr.Constant (Const.int 0) 0 ⟨751, 49, 751, 50⟩) (v := .int 0) rfl (ev_const rfl) evs_nil)))
  refine ev _ fz _ _ E h1 fun fz₂ s₂ vs s2 h2 x2 => ⟨?_, ?_⟩
  · rw [List.length_cons, x2.length, sizeLine_eq]; simp
  · have hl4 : vs.length = 4 := x2.length
    have h3 := h2.push { cls := .type "tuple", data := .seq (Value.ref s.heap.objs.size :: vs).toArray }
    have ht : IsTup (s₂.heap.push { cls := .type "tuple", data := .seq (Value.ref s.heap.objs.size :: vs).toArray }) s₂.heap.objs.size (Value.ref s.heap.objs.size :: vs).toArray := tup_pushed h2
    refine assign_Tuple_tuple R.hh ht (by rw [each_len]; simp [hl4]) (each_star (xs := ["told", "token", "kind", "k", "late"]) rfl) fun h' he => ?_
    have h4 := h3.ext2 he
    have IK := tellI_ok (prog := prog) (w := w) (X := fun _ _ _ _ => False) R s.heap.objs.size
    show wpAny (model prog w) A (do holding vs (assign (.Name "told" ⟨751, 4, 751, 8⟩) (tE L cd) (.ref s.heap.objs.size)); assignInOrder ((assignEach (oTs.drop 1) (tE L cd)).map (·.2)) vs) _ E _
    refine wpAny_bind (wpAny_holding (assign_Name (At.bindRef h4 rfl (by kernel_rfl) R.hl R.hk rfl fun h'' tk m' R' F' N' rp' ap' lc' hm => ?_)))
    have h5 : At (toldCx C s.heap.objs.size [("told", .ref s.heap.objs.size)]) (o, some []) [("text", .str (S T)), ("posix", .bool posix), ("marks", .str (S M))] ((s₂.heap.objs.size, { cls := .type "tuple", data := .seq (Value.ref s.heap.objs.size :: vs).toArray }) :: fz₂) { C.s₀ with heap := h'', toks := tk } :=
      ⟨h'', tk, m', R', rfl, F', N', rp', ap', lc', fun q hq => by
        simp only [toldCx, List.mem_singleton] at hq; subst hq; exact hm⟩
    have hall : (["token", "kind", "k", "late"] : List Str).all (tellI O).names.contains = true := by
      have : (tellI O).names = (locs (fscope (stAt 24))).filter (fun x : Str => !(x == ("told" : Str))) := rfl
      rw [this]; decide +kernel
    refine stores_ok IK (ts := oTs.drop 1) (xs := ["token", "kind", "k", "late"]) rfl hall (x2.mono fun p hp => .tail _ hp) rfl h5 fun s' h6 => ?_
    exact hq _ _ s' (fun p hp => .tail _ (s2 p hp)) (h6.weak ⟨rfl, rfl, rfl, rfl, rfl, rfl, rfl, trivial⟩)
end
noncomputable def tellOf (T M : List Nat) (posix : Bool) : tRes := (tellRun T M posix 400 ⟨0, [], 0, 0, []⟩).getD ([], none, 0)
noncomputable def tellSp (l : List V) : Option (Bool × V) := opt (aSBS l) (fun q => some (Nat.ble q.1.length 100, tellV (tellOf q.1.cps.toList q.2.2.cps.toList q.2.1))) none
section
variable {prog : Program} {w : World} {P : Params} {p : Program} {loose : List Str} {mean : ExcName → Option Value} {mg mb : Str → Option Value}
theorem told_back {O : Type} {C : Cx O} (hr : C.refs = []) {a : Addr} {refs : List (Str × Value)} {o : O} {ρ : Loc} {fz : Led} {s : Shared} (h : At (toldCx C a refs) (o, none) ρ fz s) : At C o [] fz s := by
  obtain ⟨hp, tk, m, R, rfl, F, N, rp, ap, lc, rf⟩ := h
  exact ⟨hp, tk, m, R, rfl, F, N, rp, ap, fun x v hx => (by cases hx), fun q hq => by rw [hr] at hq; cases hq⟩
theorem tell_pure (d : Nat) : PureC prog w (K02 P) p loose mean mg mb "_law_tell" (d + 2) tellSp := by
  refine pure_fnR (f := 754) (name := "_law_tell") (dV := .none) (kV := .none) (doc := .none) (pm := .str "law_in0035_02" 1142) (an := none) (ct := .none) (oc := .type "function") (od := none) (osl := #[]) (qual := "_law_tell") (scope := fscope (stAt 24)) (params := fpar (stAt 24)) (body := fbody (stAt 24)) (cdv := .ref 753) (xs := ["text", "posix", "marks"]) (by kernel_rfl) (by decide) (by kernel_rfl) (by kernel_rfl)
    (fun vs s hl => ?_) (by decide +kernel) (by decide +kernel) (by kernel_rfl) (by kernel_rfl) (by kernel_rfl) (by decide +kernel) (fun ds r h => ?_) (fun {O C A₀ base outer A L} o ds r h hrefs R hL => ?_)
  · obtain ⟨a, b, c, rfl⟩ := len3 hl
    exact BindsTo.of_eq (by kernel_rfl)
  · obtain ⟨q, h1, _⟩ := opt_of h
    rw [aSBS_is h1]; rfl
  · obtain ⟨⟨text, posix, marks⟩, h0, h⟩ := opt_of h
    · obtain ⟨h1, e0⟩ := Prod.mk.inj (sj h)
      rw [aSBS_is h0, ← e0]
      clear h h0 e0
      obtain ⟨⟨T⟩⟩ := text
      obtain ⟨⟨M⟩⟩ := marks
      have hT : T.length ≤ 100 := by
        have := Nat.le_of_ble_eq_true h1
        have e : (S T).length = T.length := len_S T
        rw [← e]; exact this
      refine ⟨[], fun fz s Q E hA hq => ?_⟩
      have hb : fbody (stAt 24) = hdS (fbody (stAt 24)) 0 :: (fbody (stAt 24)).drop 1 := by kernel_rfl
      rw [hb]
      refine wpAny_execs_cons (tell_open R (T := T) (M := M) (posix := posix) hA fun a fz₁ s₁ sb h₁ => ?_)
      obtain ⟨x, hx, ρ, hB⟩ := tell_rest (X := fun _ _ _ _ => False) (tellI_ok (prog := prog) (w := w) R a) (fun _ _ _ _ h => h) (o := o) (T := T) (M := M) (posix := posix) hT
      refine hB fz₁ s₁ Q E h₁ fun fz₂ s₂ s2 h₂ => ?_
      have := hq fz₂ s₂ (fun p hp => s2 p (sb p hp)) (told_back hrefs h₂)
      have e : tellOf T M posix = x := by unfold tellOf; rw [hx]; rfl
      have e' : tellV (tellOf (S T).cps.toList (S M).cps.toList posix) = tellV x := by rw [← e]
      rw [e'] at this
      exact this
end
theorem dq_owner : Manifest.owners.lookup (String.ofList ("collections.deque".toList).reverse.reverse) = some Manifest.sig_collections_deque := by kernel_rfl
theorem dq_plain : PlainAttrs "collections.deque" :=
  ⟨⟨"collections.deque.__getattribute__", by rw [typeLookup_type, builtinLookup_eq_fast]; kernel_rfl, by decide +kernel⟩, by rw [typeLookup_type, builtinLookup_eq_fast]; kernel_rfl⟩
theorem dq_slot_append : Slot "collections.deque" "append" "collections.deque.append" :=
  .of (owner := "collections.deque") (n := "append") (by rw [typeLookup_type, builtinLookup_eq_fast]; kernel_rfl) (by decide +kernel) (by decide +kernel) (by decide +kernel)
    (by first | exact .inl (by decide +kernel) | exact .inr (by decide +kernel)) (by rw [isSubtype_type]; kernel_rfl)
theorem dq_type_append : typeOf (.builtin "collections.deque.append") = pure (.type "method_descriptor") := by show builtinType _ = _; rw [builtinType_eq_fast]; kernel_rfl
theorem dq_entry_append : entryFor table "collections.deque.append" = some Builtin.«collections.deque.append» := entryFor_of_tree (by kernel_rfl)
theorem dq_args_append (a b : Value) : argsOk "collections.deque.append" ⟨[a, b], []⟩ := by unfold argsOk; kernel_rfl
theorem dq_slot_pop : Slot "collections.deque" "pop" "collections.deque.pop" :=
  .of (owner := "collections.deque") (n := "pop") (by rw [typeLookup_type, builtinLookup_eq_fast]; kernel_rfl) (by decide +kernel) (by decide +kernel) (by decide +kernel)
    (by first | exact .inl (by decide +kernel) | exact .inr (by decide +kernel)) (by rw [isSubtype_type]; kernel_rfl)
theorem dq_type_pop : typeOf (.builtin "collections.deque.pop") = pure (.type "method_descriptor") := by show builtinType _ = _; rw [builtinType_eq_fast]; kernel_rfl
theorem dq_entry_pop : entryFor table "collections.deque.pop" = some Builtin.«collections.deque.pop» := entryFor_of_tree (by kernel_rfl)
theorem dq_args_pop (a : Value) : argsOk "collections.deque.pop" ⟨[a], []⟩ := by unfold argsOk; kernel_rfl
theorem dq_slot_len : Slot "collections.deque" "__len__" "collections.deque.__len__" :=
  .of (owner := "collections.deque") (n := "__len__") (by rw [typeLookup_type, builtinLookup_eq_fast]; kernel_rfl) (by decide +kernel) (by decide +kernel) (by decide +kernel)
    (by first | exact .inl (by decide +kernel) | exact .inr (by decide +kernel)) (by rw [isSubtype_type]; kernel_rfl)
theorem dq_entry_len : entryFor table "collections.deque.__len__" = some Builtin.«collections.deque.__len__» := entryFor_of_tree (by kernel_rfl)
theorem dq_args_len (a : Value) : argsOk "collections.deque.__len__" ⟨[a], []⟩ := by unfold argsOk; kernel_rfl
theorem dq_noBool : typeLookup (.type "collections.deque") "__bool__" = pure none := by rw [typeLookup_type, builtinLookup_eq_fast]; kernel_rfl
noncomputable def dqObj (st : Int) (items : List Value) : Obj := { cls := .type "collections.deque", data := .fields (#[.none, rawInt st] ++ items.toArray) }
section
variable {prog : Program} {w : World} {A : Around} {E : Value → Shared → Prop} {s : Shared} {a : Addr} {st : Int} {items : List Value}
theorem dq_is (h : s.heap.get? a = some (dqObj st items)) : s.TypeIs (.ref a) "collections.deque" := ⟨_, h, rfl⟩
theorem dq_noDict (h : s.heap.get? a = some (dqObj st items)) : ∀ b, Value.ref a = .ref b → ∃ ob, s.heap.get? b = some ob ∧ ob.dict = none := fun b e => by injection e with e; subst e; exact ⟨_, h, rfl⟩
theorem dq_getAppend {pl : Sem Bool} {Q : Value × List Value → Shared → Prop} (h : s.heap.get? a = some (dqObj st items)) (hq : Q (.builtin "collections.deque.append", [.ref a]) s) :
    wpAny (model prog w) A (getMethod (.ref a) "append" pl) Q E s := getMethod_builtin (dq_is h) dq_plain dq_slot_append dq_type_append (dq_noDict h) hq
theorem dq_getPop {pl : Sem Bool} {Q : Value × List Value → Shared → Prop} (h : s.heap.get? a = some (dqObj st items)) (hq : Q (.builtin "collections.deque.pop", [.ref a]) s) :
    wpAny (model prog w) A (getMethod (.ref a) "pop" pl) Q E s := getMethod_builtin (dq_is h) dq_plain dq_slot_pop dq_type_pop (dq_noDict h) hq
theorem dq_fields {Q : Array Value → Shared → Prop} (h : s.heap.get? a = some (dqObj st items)) (hq : Q (#[.none, rawInt st] ++ items.toArray) s) : wpAny (model prog w) A (fieldsOf (.ref a)) Q E s := by
  unfold fieldsOf
  exact wpAny_bind (wpAny_load h (wpAny_pure hq))
theorem dq_extract : (#[Value.none, rawInt st] ++ items.toArray).extract 2 (#[Value.none, rawInt st] ++ items.toArray).size = items.toArray := by
  apply Array.ext'
  simp
theorem dq_items {Q : Array Value → Shared → Prop} (h : s.heap.get? a = some (dqObj st items)) (hq : Q items.toArray s) : wpAny (model prog w) A (Builtin.Deque.items (.ref a)) Q E s := by
  unfold Builtin.Deque.items
  refine wpAny_bind (dq_fields h (wpAny_pure ?_))
  rw [dq_extract]; exact hq
theorem dq_state {Q : Int → Shared → Prop} (h : s.heap.get? a = some (dqObj st items)) (hq : Q st s) : wpAny (model prog w) A (Builtin.Deque.state (.ref a)) Q E s := by
  unfold Builtin.Deque.state field
  refine wpAny_bind (wpAny_bind (dq_fields h ?_))
  have e : (#[Value.none, rawInt st] ++ items.toArray)[1]? = some (rawInt st) := by rw [← Array.getElem?_toList]; simp
  rw [e]
  exact wpAny_pure (wpAny_pure hq)
theorem dq_maxlen {Q : Option Nat → Shared → Prop} (h : s.heap.get? a = some (dqObj st items)) (hq : Q none s) : wpAny (model prog w) A (Builtin.Deque.maxlen (.ref a)) Q E s := by
  unfold Builtin.Deque.maxlen field
  refine wpAny_bind (wpAny_bind (dq_fields h ?_))
  have e : (#[Value.none, rawInt st] ++ items.toArray)[0]? = some .none := by rw [← Array.getElem?_toList]; simp
  rw [e]
  exact wpAny_pure (wpAny_pure hq)
theorem dq_change {f : Array Value → Array Value} {items' : List Value} {Q : Unit → Shared → Prop} (h : s.heap.get? a = some (dqObj st items)) (hf : f items.toArray = items'.toArray) (hz : items'.length ≤ 1000)
    (hq : ∀ h', Heap.SameBut a s.heap h' → h'.get? a = some (dqObj (st + 1) items') → Q () { s with heap := h' }) : wpAny (model prog w) A (Builtin.Deque.change (.ref a) f) Q E s := by
  unfold Builtin.Deque.change
  refine wpAny_bind (dq_state h ?_)
  have e : ∀ vs : Array Value, vs = #[Value.none, rawInt st] ++ items.toArray → (#[vs.getD 0 .none, rawInt (st + 1)] ++ f (vs.extract 2 vs.size)) = #[.none, rawInt (st + 1)] ++ items'.toArray := by
    rintro vs rfl
    rw [dq_extract, hf]
    simp
  refine wpAny_updateFields h rfl (hq _ ?_ ?_) ?_
  · exact Heap.SameBut.update _ _ _
  · refine (Heap.get?_update_self _ h rfl).trans ?_
    unfold dqObj Obj.mapFields
    simp only
    rw [← e _ rfl]; rfl
  · have := e _ rfl
    simp only [if_true] at this ⊢
    rw [this]
    simp
    rw [sizeLine_eq]; lia
theorem dq_append {x : Value} {Q : Value → Shared → Prop} (h : s.heap.get? a = some (dqObj st items)) (hz : items.length ≤ 900)
    (hq : ∀ h', Heap.SameBut a s.heap h' → h'.get? a = some (dqObj (st + 1) (items ++ [x])) → Q .none { s with heap := h' }) : wpAny (model prog w) A (call (.builtin "collections.deque.append") [.ref a, x]) Q E s := by
  refine wpAny_call_entry dq_slot_append (dq_is h) dq_entry_append ?_ (dq_args_append _ _)
  unfold Builtin.«collections.deque.append» selfAndOne noKeywords
  simp only [List.isEmpty_nil, if_true]
  refine wpAny_bind (wpAny_bind (wpAny_pure (wpAny_pure ?_)))
  unfold Builtin.Deque.pushRight
  refine wpAny_bind (wpAny_bind (dq_change (items' := items ++ [x]) h (by simp) (by simp; lia) fun h' hs ho => ?_))
  refine wpAny_bind (dq_maxlen (s := { s with heap := h' }) ho ?_)
  exact wpAny_pure (wpAny_pure ⟨_, rfl, hq h' hs ho⟩)
theorem dq_pop {x : Value} {Q : Value → Shared → Prop} (h : s.heap.get? a = some (dqObj st (items ++ [x]))) (hz : items.length ≤ 900)
    (hq : ∀ h', Heap.SameBut a s.heap h' → h'.get? a = some (dqObj (st + 1) items) → Q x { s with heap := h' }) : wpAny (model prog w) A (call (.builtin "collections.deque.pop") [.ref a]) Q E s := by
  refine wpAny_call_entry dq_slot_pop (dq_is h) dq_entry_pop ?_ (dq_args_pop _)
  unfold Builtin.«collections.deque.pop» selfOnly noKeywords
  simp only [List.isEmpty_nil, if_true]
  refine wpAny_bind (wpAny_bind (wpAny_pure (wpAny_pure ?_)))
  refine wpAny_bind (dq_items h ?_)
  have e : (items ++ [x]).toArray.back? = some x := by simp
  rw [e]
  refine wpAny_bind (dq_change h (items' := items) (by simp) (by lia) fun h' hs ho => ?_)
  exact wpAny_pure ⟨_, rfl, hq h' hs ho⟩
theorem dq_len_body {Q : Value → Shared → Prop} (h : s.heap.get? a = some (dqObj st items)) (hz : items.length ≤ 1000)
    (hq : Q (.int items.length (s.toks + 1)) { s with toks := s.toks + 1 + 1 }) : wpAny (model prog w) A (Builtin.«len» ⟨[.ref a], []⟩) (fun fin s' => ∃ r, fin = .done (.ret r) ∧ Q r s') E s := by
  have hT := dq_is h
  unfold Builtin.«len»
  refine wpAny_bind (m := oneArg "len" _) (wpAny_pure ?_)
  refine wpAny_bind (m := callSpecial? (.ref a) (ofString "__len__")) (wpAny_callSpecial?_slot (name := ofString "__len__") hT dq_slot_len
    (wpAny_call_entry dq_slot_len hT dq_entry_len ?_ (dq_args_len _)))
  · unfold Builtin.«collections.deque.__len__» slotArgs
    simp only [List.isEmpty_nil, Bool.not_true, Bool.false_eq_true, ↓reduceIte, bind_assoc, List.length_nil, bne_self_eq_false]
    refine wpAny_bind (wpAny_pure ?_)
    try dsimp only
    refine wpAny_bind ?_
    unfold Builtin.Deque.size
    refine wpAny_bind (dq_fields h (wpAny_pure ?_))
    have e : (#[Value.none, rawInt st] ++ items.toArray).size - 2 = items.length := by simp
    rw [e]
    show wpAny _ _ (retInt _) _ _ _
    unfold retInt
    refine wpAny_bind (wpAny_mkInt (wpAny_pure ⟨_, rfl, ?_⟩))
    refine wpAny_bind (wpAny_holding (wpAny_pure ?_))
    refine wpAny_bind (wpAny_letGo ?_)
    show wpAny _ _ (if ((items.length : Nat) : Int) < 0 then _ else _) _ _ _
    rw [if_neg (by lia)]
    show wpAny _ _ (if ((items.length : Nat) : Int) ≥ 2 ^ 63 then _ else _) _ _ _
    rw [if_neg (by lia)]
    exact wpAny_bind (wpAny_mkInt (wpAny_pure ⟨_, rfl, hq⟩))
theorem dq_truthy {Q : Bool → Shared → Prop} (h : s.heap.get? a = some (dqObj st items)) (hz : items.length ≤ 1000)
    (hq : Q (!items.isEmpty) { s with toks := s.toks + 1 + 1 }) : wpAny (model prog w) A (truthy (.ref a)) Q E s := by
  have hne : ((items.length : Int) != 0) = !items.isEmpty := by
    cases items with
    | nil => rfl
    | cons x r =>
      have : ((((x :: r).length : Nat) : Int) != 0) = true := bne_iff_ne.mpr (by rw [List.length_cons]; lia)
      rw [this]; rfl
  have key : wpAny (model prog w) A (runValue (.builtin "len" ⟨[.ref a], []⟩)) (fun r s' => r = .int items.length (s.toks + 1) ∧ Q (!items.isEmpty) s') E s := by
    refine wpAny_runValue (codeAny_builtin entry_len ?_)
    rw [Around.under_plainId plain_len _]
    exact wpAny_mono (dq_len_body (Q := fun r s' => r = .int items.length (s.toks + 1) ∧ Q (!items.isEmpty) s') h hz ⟨rfl, hq⟩)
      (fun fin s' h' => by obtain ⟨r, rfl, hq⟩ := h'; exact hq) fun _ _ e => e
  unfold truthy
  first
    | refine wpAny_bind (wpAny_callSpecial?_none (name := ofString "__bool__") (dq_is h) dq_noBool ?_)
    | refine wpAny_bind (wpAny_pure (wpAny_bind (wpAny_callSpecial?_none (name := ofString "__bool__") (dq_is h) dq_noBool ?_)))
  first
    | refine wpAny_bind (wpAny_specialOf (name := ofString "__len__") (dq_is h) dq_slot_len.lookup ?_)
    | refine wpAny_bind (wpAny_pure (wpAny_bind (wpAny_specialOf (name := ofString "__len__") (dq_is h) dq_slot_len.lookup ?_)))
  exact wpAny_bind (wpAny_mono key (fun r s' h' => by obtain ⟨rfl, hq⟩ := h'; exact wpAny_pure (hne ▸ hq)) fun _ _ e => e)
end
theorem dq_mro : mroOf (.type "collections.deque") = pure [.type "collections.deque", .type "object"] := by rw [mroOf_type]; kernel_rfl
theorem dq_lookup_new : typeLookup (.type "collections.deque") "__new__" = pure (some (.builtin "collections.deque.__new__")) := by rw [typeLookup_type, builtinLookup_eq_fast]; kernel_rfl
theorem dq_slot_init : Slot "collections.deque" "__init__" "collections.deque.__init__" :=
  .of (owner := "collections.deque") (n := "__init__") (by rw [typeLookup_type, builtinLookup_eq_fast]; kernel_rfl) (by decide +kernel) (by decide +kernel) (by decide +kernel)
    (by first | exact .inl (by decide +kernel) | exact .inr (by decide +kernel)) (by rw [isSubtype_type]; kernel_rfl)
theorem dq_called : TypeCalled "collections.deque" "collections.deque.__new__" "collections.deque.__init__" :=
  ⟨by decide +kernel, by decide +kernel, ⟨_, _, dq_mro⟩, madeBy_type dq_mro dq_lookup_new (by decide +kernel), by decide +kernel, by rw [isSubtype_type]; kernel_rfl, dq_slot_init⟩
theorem dq_typeCall : checkTypeCall "collections.deque" ⟨[], []⟩ = pure () := by kernel_rfl
theorem dq_newCall : checkBuiltinCall "collections.deque.__new__" ⟨[.type "collections.deque"], []⟩ = pure () := by kernel_rfl
theorem dq_entry_new : entryFor table "collections.deque.__new__" = some Builtin.«collections.deque.__new__» := entryFor_of_tree (by kernel_rfl)
theorem dq_plain_new : plainId "collections.deque.__new__" = true := by decide +kernel
theorem dq_entry_init : entryFor table "collections.deque.__init__" = some Builtin.«collections.deque.__init__» := entryFor_of_tree (by kernel_rfl)
theorem dq_sub : isSubtype (.type "collections.deque") (.type "collections.deque") = pure true := by rw [isSubtype_type]; kernel_rfl
theorem dq_noTypeDict : typeHasDict (.type "collections.deque") = false := by kernel_rfl
theorem dq_args_init (a : Value) : argsOk "collections.deque.__init__" ⟨[a], []⟩ := by unfold argsOk; kernel_rfl
section
variable {prog : Program} {w : World} {A : Around} {E : Value → Shared → Prop} {s : Shared}
theorem dq_code_new {Q₁ : Value → Shared → Prop}
    (h : Q₁ (.ref s.heap.objs.size) { s with heap := s.heap.push (dqObj 0 []) }) :
    codeAny (model prog w) A (.call (.builtin "collections.deque.__new__") ⟨[.type "collections.deque"], []⟩) (wants Q₁ E) s := by
  refine codeAny_of_tree ?_
  show wpAny _ A.in1 (do checkBuiltinCall "collections.deque.__new__" ⟨[.type "collections.deque"], []⟩; again (.builtin "collections.deque.__new__" ⟨[.type "collections.deque"], []⟩)) _ _ s
  refine wpAny_bind (wpAny_of_eq dq_newCall (wpAny_pure ⟨plainId_quiet dq_plain_new _, codeAny_builtin dq_entry_new ?_⟩))
  rw [Around.under_plainId dq_plain_new _]
  have key : ∀ (hs : s = s), Builtin.«collections.deque.__new__» ⟨[.type "collections.deque"], []⟩ = (do ret (← Builtin.Deque.new (.type "collections.deque") #[] none)) := by
    intro _
    unfold Builtin.«collections.deque.__new__» Builtin.Deque.newArgs Builtin.Deque.ty
    have ht : isType (.type "collections.deque") = pure true := by kernel_rfl
    simp only [ht, dq_sub]
    rfl
  rw [key rfl]
  unfold Builtin.Deque.new
  simp only [dq_noTypeDict]
  have hz : ((#[] : Array Value).size > sizeLine) = False := by rw [sizeLine_eq]; simp
  simp only [hz, if_false, Bool.false_eq_true]
  refine wpAny_bind (wpAny_bind (wpAny_pure ?_))
  simp only [newObj]
  refine wpAny_bind (wpAny_alloc (wpAny_pure ?_))
  exact wpAny_pure h
theorem dq_init_is (a : Addr) : Builtin.«collections.deque.__init__» ⟨[.ref a], []⟩ = (do setField (.ref a) 0 .none; Builtin.Deque.clear (.ref a); ret .none) := by kernel_rfl
theorem dq_init_body {Q : Value → Shared → Prop} {a : Addr} (h : s.heap.get? a = some (dqObj 0 [])) (hq : ∀ h', Heap.SameBut a s.heap h' → h'.get? a = some (dqObj 0 []) → Q .none { s with heap := h' }) :
    wpAny (model prog w) A (Builtin.«collections.deque.__init__» ⟨[.ref a], []⟩) (fun fin s' => ∃ r, fin = .done (.ret r) ∧ Q r s') E s := by
  rw [dq_init_is]
  unfold setField updateField
  have e : (Obj.mapFields (·.setIfInBounds 0 .none) (dqObj 0 [])) = dqObj 0 [] := by kernel_rfl
  have ho' : (s.heap.update a (Obj.mapFields (·.setIfInBounds 0 .none))).get? a = some (dqObj 0 []) := (Heap.get?_update_self _ h rfl).trans (by rw [e])
  have hl : 0 < (#[Value.none, rawInt 0] ++ ([] : List Value).toArray).size := by simp
  refine wpAny_bind (wpAny_bind (wpAny_load h ?_))
  show wpAny _ _ (if 0 < (#[Value.none, rawInt 0] ++ ([] : List Value).toArray).size then _ else _) _ _ _
  rw [if_pos hl]
  refine wpAny_update h ?_
  unfold Builtin.Deque.clear
  refine wpAny_bind (wpAny_bind (dq_items (s := { s with heap := s.heap.update a (Obj.mapFields (·.setIfInBounds 0 .none)) }) ho' ?_))
  exact wpAny_pure (wpAny_pure ⟨_, rfl, hq _ (Heap.SameBut.update _ _ _) ho'⟩)
set_option maxHeartbeats 1000000 in
theorem dq_new {Q : Value → Shared → Prop}
    (h : ∀ h', Heap.ExtBut s.heap.objs.size s.heap h' → h'.get? s.heap.objs.size = some (dqObj 0 []) → h'.objs.size = s.heap.objs.size + 1 → Q (.ref s.heap.objs.size) { s with heap := h' }) :
    wpAny (model prog w) A (call (.type "collections.deque") []) Q E s := by
  obtain ⟨c, tl, hmro⟩ := dq_called.mro
  have hmade := dq_called.made
  have hsub := dq_called.sub
  refine wpAny_call (codeAny_of_tree ?_)
  show wpAny _ _ (callAny (.type "collections.deque") _) _ _ _
  refine wpAny_pure ⟨Code.quiet_builtin _ (by decide +kernel), codeAny_builtin F.entry_type_call ?_⟩
  rw [Around.under_plain (weight_type_call_type "collections.deque" [] []) rfl]
  have h1 := dq_called.notType
  have h2 := dq_called.canCreate
  have hct := dq_typeCall
  repeat (any_goals (first | assumption | wp_step))
  refine codeAny_mono (dq_code_new (E := E) (Q₁ := fun obj s₁ => obj = .ref s.heap.objs.size ∧ s₁ = { s with heap := s.heap.push (dqObj 0 []) }) ⟨rfl, rfl⟩) fun r s₁ hr => ?_
  cases r with
  | error e => exact hr
  | ok fl =>
    cases fl with
    | ret obj =>
      obtain ⟨rfl, rfl⟩ := hr
      have hS : (s.heap.push (dqObj 0 [])).get? s.heap.objs.size = some (dqObj 0 []) := Heap.get?_push_size _ rfl
      have hT : Shared.TypeIs { s with heap := s.heap.push (dqObj 0 []) } (.ref s.heap.objs.size) "collections.deque" := ⟨_, hS, rfl⟩
      have hli := dq_called.init.lookup
      have hbi := dq_called.init.bind (.ref s.heap.objs.size)
      repeat (any_goals (first | assumption | wp_step))
      refine codeAny_mono (codeAny_call_builtin (R := wants (fun r s₂ => r = .none ∧ Q (.ref s.heap.objs.size) s₂) E) dq_called.init.plain dq_entry_init (dq_called.init.check _ _ _ _ _ _ _ _ hT (dq_args_init _) ?_)) fun r₂ s₂ hr₂ => ?_
      · refine wpAny_mono (dq_init_body (Q := fun r s₂ => r = .none ∧ Q (.ref s.heap.objs.size) s₂) hS fun h' hs ho => ⟨rfl, h h' (fun b o hb e => ?_) ho ?_⟩) (fun fin s' h' => by obtain ⟨v, rfl, hv⟩ := h'; exact hv) fun _ _ h' => h'
        · rw [hs.2 b hb]; exact Heap.get?_push_of_some _ e
        · rw [hs.1, Heap.size_push]
      · cases r₂ with
        | error e => exact hr₂
        | ok fl₂ =>
          cases fl₂ with
          | ret r =>
            obtain ⟨rfl, hq⟩ := hr₂
            repeat (any_goals (first | assumption | wp_step))
          | _ => exact hr₂.elim
    | _ => exact hr.elim
end
inductive FV where
  | v (d : V)
  | r (a : Addr)
noncomputable def FVR (fz : Led) : FV → Value → Prop
  | .v d, x => VR fz d x
  | .r a, x => x = .ref a
theorem FVR.mono {fz fz' : Led} (h : ∀ p ∈ fz, p ∈ fz') : ∀ {f : FV} {x : Value}, FVR fz f x → FVR fz' f x
  | .v _, _, hx => DatIn.mono h hx
  | .r _, _, hx => hx
noncomputable def FsOk (fz : Led) : List (Str × FV) → List DictEntry → Prop
  | [], [] => True
  | y :: r, e :: es => (∃ tk, e.key = .str y.1 tk) ∧ FVR fz y.2 e.val ∧ FsOk fz r es
  | _, _ => False
theorem FsOk.ind {fz : Led} {P : List (Str × FV) → List DictEntry → Prop} (h0 : P [] []) (h1 : ∀ y r e es, (∃ tk, e.key = .str y.1 tk) → FVR fz y.2 e.val → FsOk fz r es → P r es → P (y :: r) (e :: es)) : ∀ {fs es}, FsOk fz fs es → P fs es := by
  intro fs
  induction fs with
  | nil => intro es h; cases es with
    | nil => exact h0
    | cons => exact h.elim
  | cons y r ih => intro es h; cases es with
    | nil => exact h.elim
    | cons e es => exact h1 y r e es h.1 h.2.1 h.2.2 (ih h.2.2)
theorem FsOk.mono {fz fz' : Led} (h : ∀ p ∈ fz, p ∈ fz') {fs : List (Str × FV)} {es : List DictEntry} (x : FsOk fz fs es) : FsOk fz' fs es :=
  FsOk.ind (P := FsOk fz') trivial (fun _ _ _ _ h1 h2 _ ih => ⟨h1, h2.mono h, ih⟩) x
theorem FsOk.len {fz : Led} {fs : List (Str × FV)} {es : List DictEntry} (x : FsOk fz fs es) : es.length = fs.length :=
  FsOk.ind (P := fun fs es => es.length = fs.length) rfl (fun _ _ _ _ _ _ _ ih => congrArg Nat.succ ih) x
noncomputable def putF (x : Str) (f : FV) : List (Str × FV) → List (Str × FV)
  | [] => [(x, f)]
  | y :: r => if x == y.1 then (y.1, f) :: r else y :: putF x f r
theorem isStr_str (a x : Str) (tk : Tok) : (Value.str a tk).isStr x = (a == x) := rfl
noncomputable def Found (fz : Led) (x : Str) (es : List DictEntry) : Option FV → Prop
  | some f => ∃ e, es.find? (·.key.isStr x) = some e ∧ FVR fz f e.val
  | none => es.find? (·.key.isStr x) = none ∧ es.any (·.refKey) = false
theorem fs_find {fz : Led} {x : Str} {fs : List (Str × FV)} {es : List DictEntry} (h : FsOk fz fs es) : Found fz x es (fs.lookup x) := by
  refine FsOk.ind (P := fun fs es => Found fz x es (fs.lookup x)) ⟨rfl, rfl⟩ (fun y r e es => ?_) h
  · rintro ⟨tk, h1⟩ h2 h3 ih
    rw [List.lookup_cons]
    have hk : e.key.isStr x = (y.1 == x) := by rw [h1]; rfl
    by_cases hx : (x == y.1) = true
    · rw [hx]
      have : (y.1 == x) = true := by rw [eq_of_beq hx]; simp
      refine ⟨e, ?_, h2⟩
      rw [List.find?_cons, hk, this]
    · have hx : (x == y.1) = false := by simpa using hx
      rw [hx]
      have : (y.1 == x) = false := by rw [beq_eq_false_iff_ne] at hx ⊢; exact fun e => hx e.symm
      show Found fz x (e :: es) (r.lookup x)
      have ef : (e :: es).find? (·.key.isStr x) = es.find? (·.key.isStr x) := by rw [List.find?_cons, hk, this]
      cases q : r.lookup x with
      | some f =>
        rw [q] at ih
        obtain ⟨e', a, b⟩ := ih
        exact ⟨e', ef.trans a, b⟩
      | none =>
        rw [q] at ih
        refine ⟨ef.trans ih.1, ?_⟩
        have : e.refKey = false := by unfold DictEntry.refKey; rw [h1]
        rw [List.any_cons, this, ih.2]; rfl
theorem fs_get {fz : Led} {x : Str} {fs : List (Str × FV)} {es : List DictEntry} (h : FsOk fz fs es) {f : FV} (hf : fs.lookup x = some f) : ∃ v, getL x es = some (some v) ∧ FVR fz f v := by
  have := fs_find (x := x) h
  rw [hf] at this
  obtain ⟨e, h1, h2⟩ := this
  exact ⟨e.val, by unfold getL; rw [h1], h2⟩
theorem fs_none {fz : Led} {x : Str} {fs : List (Str × FV)} {es : List DictEntry} (h : FsOk fz fs es) (hf : fs.lookup x = none) : getL x es = some none := by
  have := fs_find (x := x) h
  rw [hf] at this
  unfold getL; rw [this.1, this.2]; rfl
theorem fs_put {fz : Led} {x : Str} {f : FV} {v : Value} {hs : Int} {tk : Tok} (hv : FVR fz f v) {fs : List (Str × FV)} {es : List DictEntry} (h : FsOk fz fs es) : FsOk fz (putF x f fs) (putL x hs (.str x tk) v es) := by
  refine FsOk.ind (P := fun fs es => FsOk fz (putF x f fs) (putL x hs (.str x tk) v es)) ⟨⟨tk, rfl⟩, hv, trivial⟩ (fun y r e es => ?_) h
  · rintro ⟨tk', h1⟩ h2 h3 ih
    have hk : e.key.isStr x = (y.1 == x) := by rw [h1]; rfl
    unfold putF putL
    by_cases hx : (x == y.1) = true
    · have : (y.1 == x) = true := by rw [eq_of_beq hx]; simp
      rw [if_pos hx, hk, if_pos this]
      exact ⟨⟨tk', h1⟩, hv, h3⟩
    · have hx' : (x == y.1) = false := by simpa using hx
      have : ¬ (y.1 == x) = true := by
        rw [beq_eq_false_iff_ne] at hx'
        intro q; exact hx' (eq_of_beq q).symm
      rw [if_neg hx, hk, if_neg this]
      exact ⟨⟨tk', h1⟩, h2, ih⟩
structure LP where
  lx : Addr
  ld : Addr
  io : Addr
  id : Addr
  pb : Addr
  fs : Addr
  pc : Addr
  T : List Nat
  M : List Nat
  W : List Nat
  posix : Bool
structure LO where
  state : V
  token : V
  lineno : V
  pos : V
  pbs : List Nat
noncomputable def eofV (posix : Bool) : V := match posix with
  | true => .none
  | false => .str ""
noncomputable def lexFields (P : LP) (o : LO) : List (Str × FV) :=
  [("instream", .r P.io), ("infile", .v .none), ("posix", .v (.bool P.posix)), ("eof", .v (eofV P.posix)), ("commenters", .v (.str "#")), ("wordchars", .v (.str (S P.W))), ("whitespace", .v (.str " \t\r\n")), ("whitespace_split", .v (.bool false)),
   ("quotes", .v (.str "'\"")), ("escape", .v (.str "\\")), ("escapedquotes", .v (.str "\"")), ("state", .v o.state), ("pushback", .r P.pb), ("lineno", .v o.lineno), ("debug", .v (.int 0)), ("token", .v o.token), ("filestack", .r P.fs), ("source", .v .none),
   ("_punctuation_chars", .v (.str (S P.M))), ("_pushback_chars", .r P.pc)]
noncomputable def ioFields (P : LP) (o : LO) : List (Str × FV) := [("_StringIO__newline", .v (.str "\n")), ("_StringIO__buf", .v (.str (S P.T))), ("_StringIO__pos", .v o.pos)]
noncomputable abbrev lexPre (P : LP) (es : List DictEntry) (n : Nat) (es2 : List DictEntry) (n2 : Nat) (s1 s2 : Int) : Led := [(P.lx, instObj 722 P.ld), (P.ld, dictOf es n), (P.io, instObj 587 P.id), (P.id, dictOf es2 n2), (P.pb, dqObj s1 []), (P.fs, dqObj s2 [])]
inductive lexRep (P : LP) (o : LO) (fz R : Led) : Prop
  | mk (es : List DictEntry) (n : Nat) (es2 : List DictEntry) (n2 : Nat) (s1 s2 s3 : Int) (vs : List Value) (e : R = lexPre P es n es2 n2 s1 s2 ++ [(P.pc, dqObj s3 vs)]) (h1 : FsOk fz (lexFields P o) es) (h2 : FsOk fz (ioFields P o) es2) (h3 : DatAll fz vs (o.pbs.map fun c => .str (S [c])))
      (h4 : [P.lx, P.ld, P.io, P.id, P.pb, P.fs, P.pc].Nodup)
theorem lexRep_mono (P : LP) (o : LO) (fz fz' R : Led) (h : ∀ p ∈ fz, p ∈ fz') (hr : lexRep P o fz R) : lexRep P o fz' R := by
  obtain ⟨es, n, es2, n2, s1, s2, s3, vs, e, h1, h2, h3, h4⟩ := hr
  exact ⟨es, n, es2, n2, s1, s2, s3, vs, e, h1.mono h, h2.mono h, h3.mono h, h4⟩
theorem handed_V {fz : Led} {d : V} {v : Value} (h : VR fz d v) : handedIn v = true := by cases h <;> rfl
theorem handed_FV {fz : Led} {f : FV} {v : Value} (h : FVR fz f v) : handedIn v = true := by
  cases f with
  | v d => exact handed_V h
  | r a => cases h; rfl
section
variable {prog : Program} {w : World} {K : Frag} {p : Program} {loose : List Str} {mean : ExcName → Option Value} {mg mb : Str → Option Value} {A₀ : Around} {base : Heap} {outer : List Env} {A : Around} {env : Env} {O : Type}
theorem get_field {C : Cx O} {d : Nat} (R : Rim K p loose mean mg mb A₀ base outer A env C.h₀ C.L d) {o : O} {ρ : Loc} {fz : Led} {s : Shared} (h : At C o ρ fz s) {cls x dx : Addr} {fs : List (Str × FV)} {name : Str} {f : FV} {expr : Bool} {Q E : Value → Shared → Prop}
    (hi : ∀ R, C.Rep o fz R → ∃ es n, (x, instObj cls dx) ∈ R ∧ (dx, dictOf es n) ∈ R ∧ FsOk fz fs es) (hf : fs.lookup name = some f)
    (hg : plainGet K cls name = true) (hh : hasDictIn K cls = true) (ha : findIn K (.ref cls) name = some none)
    (hq : ∀ v s', At C o ρ fz s' → FVR fz f v → Q v s') : wpAny (model prog w) A (getAttr (.ref x) name expr) Q E s := by
  obtain ⟨hp, tk, m, Rl, rfl, F, N, rp, ap, lc, rf⟩ := id h
  obtain ⟨es, n, h1, h2, h3⟩ := hi Rl rp
  obtain ⟨v, g1, g2⟩ := fs_get h3 hf
  have I : InstAt hp x (instObj cls dx) cls (some (dictOf es n)) := ⟨(N _ (List.mem_append_left _ h1)).1, rfl, rfl, (N _ (List.mem_append_left _ h2)).1⟩
  exact get_own (s := { C.s₀ with heap := hp, toks := tk }) F R.X I hg hh ha rfl g1 (handed_FV g2) (hq v _ (h.toks _) g2)
theorem upd_mk {d : Addr} {a b : Obj} {post : Led} (h2 : ∀ q ∈ post, q.1 ≠ d) : ∀ {pre : Led}, (∀ q ∈ pre, q.1 ≠ d) → Upd d a b (pre ++ (d, a) :: post) (pre ++ (d, b) :: post)
  | [], _ => .head h2
  | q :: r, h1 => .tail (h1 q (.head _)) (upd_mk h2 fun y hy => h1 y (.tail _ hy))
theorem set_field {C : Cx O} {d : Nat} (R : Rim K p loose mean mg mb A₀ base outer A env C.h₀ C.L d) {o o' : O} {ρ : Loc} {fz : Led} {s : Shared} (h : At C o ρ fz s) {cls x dx : Addr} {fs : List (Str × FV)} {name : Str} {dv : V} {v : Value} {Q : Unit → Shared → Prop} {E : Value → Shared → Prop}
    (hi : ∀ Rl, C.Rep o fz Rl → ∃ es n pre post, Rl = pre ++ (dx, dictOf es n) :: post ∧ (x, instObj cls dx) ∈ pre ∧ (∀ q ∈ pre, q.1 ≠ dx) ∧ (∀ q ∈ post, q.1 ≠ dx) ∧ FsOk fz fs es ∧
      ∀ es' n', FsOk fz (putF name (.v dv) fs) es' → C.Rep o' fz (pre ++ (dx, dictOf es' n') :: post))
    (hlen : (putF name (.v dv) fs).length ≤ 1000) (hs : findIn K (.ref cls) "__setattr__" = some (some (.builtin "object.__setattr__"))) (hp : plainOver K cls = true) (ht : takerIn K cls name = some none) (hh : hasDictIn K cls = true)
    (hv : VR fz dv v) (hq : ∀ s', At C o' ρ fz s' → Q () s') : wpAny (model prog w) A (setAttr (.ref x) name v) Q E s := by
  obtain ⟨hp', tk, m, Rl, rfl, F, N, rp, ap, lc, rf⟩ := id h
  obtain ⟨es, n, pre, post, rfl, h1, h2, h3, h4, h5⟩ := hi Rl rp
  have I : InstAt hp' x (instObj cls dx) cls (some (dictOf es n)) := ⟨(N _ (List.mem_append_left _ (List.mem_append_left _ h1))).1, rfl, rfl, (N _ (List.mem_append_left _ (List.mem_append_right _ (.head _)))).1⟩
  have hl : (getL name es).isSome = true := by
    cases q : fs.lookup name with
    | some f => obtain ⟨v', e, _⟩ := fs_get h4 q; rw [e]; rfl
    | none => rw [fs_none h4 q]; rfl
  have hp2 := fs_put (fz := fz) (x := name) (f := .v dv) (v := v) (hs := PyData.keyHash w.params name) (tk := tk + 1) hv h4
  have hrest : ∀ q ∈ fz ++ C.rest, q.1 ≠ dx := fun q hq e => ap (dx, dictOf es n) (List.mem_append_right _ (.head _)) q hq e.symm
  refine set_dict (s := { C.s₀ with heap := hp', toks := tk }) (es' := putL name (PyData.keyHash w.params name) (.str name (tk + 1)) v es) (n' := putN name es n) F R.X N I rfl hs hp ht hh hl rfl
    (news' := (pre ++ (dx, dictOf (putL name (PyData.keyHash w.params name) (.str name (tk + 1)) v es) (putN name es n)) :: post) ++ (fz ++ C.rest)) ?_ (by rw [hp2.len]; exact hlen) fun h' F' N' => ?_
  · rw [List.append_assoc, List.append_assoc, List.cons_append, List.cons_append]
    exact upd_mk (fun q hq => (List.mem_append.mp hq).elim (h3 q) (hrest q)) h2
  · refine hq _ ⟨h', _, m, _, rfl, F', N', h5 _ _ hp2, fun q hq r hr => ?_, lc, rf⟩
    simp only [List.mem_append, List.mem_cons] at hq
    rcases hq with hq | rfl | hq
    · exact ap q (List.mem_append_left _ hq) r hr
    · exact ap (dx, dictOf es n) (List.mem_append_right _ (.head _)) r hr
    · exact ap q (List.mem_append_right _ (.tail _ hq)) r hr
end
section
variable {prog : Program} {w : World} {K : Frag} {Pm : Params} {p : Program} {loose : List Str} {mean : ExcName → Option Value} {mg mb : Str → Option Value} {A₀ : Around} {base : Heap} {outer : List Env} {A : Around} {env : Env}
theorem Rim.in1 {h₀ : Heap} {L : Addr} {d : Nat} (R : Rim K p loose mean mg mb A₀ base outer A env h₀ L d) : Rim K p loose mean mg mb A₀ base outer A.in1 env h₀ L d :=
  ⟨R.B, R.X, R.T, R.hA, R.hf, R.hk, R.hl, R.hg, R.hb, R.hh, R.hi, R.room⟩
theorem lex_here {P : LP} {o : LO} {fz Rl : Led} (h : lexRep P o fz Rl) : ∃ es n, (P.lx, instObj 722 P.ld) ∈ Rl ∧ (P.ld, dictOf es n) ∈ Rl ∧ FsOk fz (lexFields P o) es := by
  obtain ⟨es, n, es2, n2, s1, s2, s3, vs, rfl, h1, h2, h3, h4⟩ := h
  exact ⟨es, n, .head _, .tail _ (.head _), h1⟩
theorem io_here {P : LP} {o : LO} {fz Rl : Led} (h : lexRep P o fz Rl) : ∃ es n, (P.io, instObj 587 P.id) ∈ Rl ∧ (P.id, dictOf es n) ∈ Rl ∧ FsOk fz (ioFields P o) es := by
  obtain ⟨es, n, es2, n2, s1, s2, s3, vs, rfl, h1, h2, h3, h4⟩ := h
  exact ⟨es2, n2, .tail _ (.tail _ (.head _)), .tail _ (.tail _ (.tail _ (.head _))), h2⟩
theorem lex_turn {P : LP} {o o' : LO} {name : Str} {dv : V} {fz Rl : Led} (e : putF name (.v dv) (lexFields P o) = lexFields P o') (e2 : ioFields P o = ioFields P o') (e3 : o.pbs = o'.pbs) (h : lexRep P o fz Rl) :
    ∃ es n pre post, Rl = pre ++ (P.ld, dictOf es n) :: post ∧ (P.lx, instObj 722 P.ld) ∈ pre ∧ (∀ q ∈ pre, q.1 ≠ P.ld) ∧ (∀ q ∈ post, q.1 ≠ P.ld) ∧ FsOk fz (lexFields P o) es ∧
      ∀ es' n', FsOk fz (putF name (.v dv) (lexFields P o)) es' → lexRep P o' fz (pre ++ (P.ld, dictOf es' n') :: post) := by
  obtain ⟨es, n, es2, n2, s1, s2, s3, vs, rfl, h1, h2, h3, h4⟩ := h
  have k := keys_split (pre := [(P.lx, instObj 722 P.ld)]) (a := P.ld) (ob := dictOf es n) (post := [(P.io, instObj 587 P.id), (P.id, dictOf es2 n2), (P.pb, dqObj s1 []), (P.fs, dqObj s2 []), (P.pc, dqObj s3 vs)]) h4
  exact ⟨es, n, [(P.lx, instObj 722 P.ld)], _, rfl, .head _, k.1, k.2, h1, fun es' n' h' => ⟨es', n', es2, n2, s1, s2, s3, vs, rfl, e ▸ h', e2 ▸ h2, e3 ▸ h3, h4⟩⟩
theorem io_turn {P : LP} {o o' : LO} {name : Str} {dv : V} {fz Rl : Led} (e : putF name (.v dv) (ioFields P o) = ioFields P o') (e2 : lexFields P o = lexFields P o') (e3 : o.pbs = o'.pbs) (h : lexRep P o fz Rl) :
    ∃ es n pre post, Rl = pre ++ (P.id, dictOf es n) :: post ∧ (P.io, instObj 587 P.id) ∈ pre ∧ (∀ q ∈ pre, q.1 ≠ P.id) ∧ (∀ q ∈ post, q.1 ≠ P.id) ∧ FsOk fz (ioFields P o) es ∧
      ∀ es' n', FsOk fz (putF name (.v dv) (ioFields P o)) es' → lexRep P o' fz (pre ++ (P.id, dictOf es' n') :: post) := by
  obtain ⟨es, n, es2, n2, s1, s2, s3, vs, rfl, h1, h2, h3, h4⟩ := h
  have k := keys_split (pre := [(P.lx, instObj 722 P.ld), (P.ld, dictOf es n), (P.io, instObj 587 P.id)]) (a := P.id) (ob := dictOf es2 n2) (post := [(P.pb, dqObj s1 []), (P.fs, dqObj s2 []), (P.pc, dqObj s3 vs)]) h4
  exact ⟨es2, n2, [(P.lx, instObj 722 P.ld), (P.ld, dictOf es n), (P.io, instObj 587 P.id)], _, rfl, .tail _ (.tail _ (.head _)), k.1, k.2, h2, fun es' n' h' => ⟨es, n, es', n', s1, s2, s3, vs, rfl, e2 ▸ h1, e ▸ h', e3 ▸ h3, h4⟩⟩
end
noncomputable def lexNames : List Str := ["instream", "infile", "posix", "eof", "commenters", "wordchars", "whitespace", "whitespace_split", "quotes", "escape", "escapedquotes", "state", "pushback", "lineno", "debug", "token", "filestack", "source", "_punctuation_chars", "_pushback_chars"]
theorem lex_plain (Pm : Params) : (lexNames.all fun x => findIn (K02 Pm) (.ref 722) x == some none) = true := by kernel_rfl
theorem lex_names (P : LP) (o : LO) : (lexFields P o).map (·.1) = lexNames := rfl
theorem lex_find (Pm : Params) {P : LP} {o : LO} {a : Str} {f : FV} (h : (lexFields P o).lookup a = some f) : findIn (K02 Pm) (.ref 722) a = some none := by
  have hm : a ∈ lexNames := by
    obtain ⟨l1, l2, he, _⟩ := List.lookup_eq_some_iff.mp h
    rw [← lex_names P o, he]; simp
  have := List.all_eq_true.mp (lex_plain Pm) a hm
  exact eq_of_beq this
theorem lex_get1 (Pm : Params) : plainGet (K02 Pm) 722 "state" = true := by kernel_rfl
theorem lex_get2 (Pm : Params) : hasDictIn (K02 Pm) 722 = true := by kernel_rfl
theorem lex_set1 (Pm : Params) : findIn (K02 Pm) (.ref 722) "__setattr__" = some (some (.builtin "object.__setattr__")) := by kernel_rfl
theorem lex_set2 (Pm : Params) : plainOver (K02 Pm) 722 = true := by kernel_rfl
theorem lex_set3 (Pm : Params) : takerIn (K02 Pm) 722 "state" = some none := by kernel_rfl
theorem lex_set4 (Pm : Params) : takerIn (K02 Pm) 722 "token" = some none := by kernel_rfl
theorem lex_set5 (Pm : Params) : takerIn (K02 Pm) 722 "lineno" = some none := by kernel_rfl
theorem io_get1 (Pm : Params) : plainGet (K02 Pm) 587 "x" = true := by kernel_rfl
theorem io_get2 (Pm : Params) : hasDictIn (K02 Pm) 587 = true := by kernel_rfl
theorem io_get3 (Pm : Params) : ((["_StringIO__newline", "_StringIO__buf", "_StringIO__pos"] : List Str).all fun x => findIn (K02 Pm) (.ref 587) x == some none) = true := by kernel_rfl
theorem io_set1 (Pm : Params) : findIn (K02 Pm) (.ref 587) "__setattr__" = some (some (.builtin "object.__setattr__")) := by kernel_rfl
theorem io_set3 (Pm : Params) : takerIn (K02 Pm) 587 "_StringIO__pos" = some none := by kernel_rfl
theorem punct_1 (Pm : Params) : findIn (K02 Pm) (.ref 722) "punctuation_chars" = some (some (.ref 654)) := by kernel_rfl
theorem punct_2 (Pm : Params) : specialIn (K02 Pm) (.ref 654) "__get__" = some (some (.builtin "property.__get__")) := by kernel_rfl
theorem punct_3 (Pm : Params) : takesIn (K02 Pm) (.ref 654) = some true := by kernel_rfl
theorem read_1 (Pm : Params) : findIn (K02 Pm) (.ref 587) "read" = some (some (.ref 533)) := by kernel_rfl
theorem read_2 (Pm : Params) : isFn (K02 Pm) (.ref 533) = true := by kernel_rfl
section
set_option tactic.hygienic true
theorem io_set2 (Pm : Params) : plainOver (K02 Pm) 587 = true := by kernel_rfl
noncomputable def lexI (P : LP) (names : List Str) (callT : List (Str × (List V → Option (Bool × V)))) (prim : LO → Loc → Stmt → Option (LO × Loc × Fl)) : Ifc LO :=
  { names := names, self := "self", attr := fun o a => match (lexFields P o).lookup a with | some (.v d) => some d | _ => (match a == "punctuation_chars" with | true => some (.str (S P.M)) | false => none),
    setA := fun o a v => match a == "state" with | true => some { o with state := v } | false => (match a == "token" with | true => some { o with token := v } | false => (match a == "lineno" with | true => some { o with lineno := v } | false => none)),
    callF := fun _ f ds => (callT.lookup f).bind fun g => g ds, prim := prim }
abbrev lexCx (P : LP) (C : Cx LO) : Prop := C.Rep = lexRep P
section
variable {prog : Program} {w : World} {Pm : Params} {p : Program} {loose : List Str} {mean : ExcName → Option Value} {mg mb : Str → Option Value} {A₀ : Around} {base : Heap} {outer : List Env} {A : Around} {env : Env}
noncomputable def fldI (P : LP) : Ifc LO := { names := [], self := "self", attr := fun o a => match (lexFields P o).lookup a with | some (.v d) => some d | _ => none, setA := fun _ _ _ => none, callF := fun _ _ _ => none, prim := fun _ _ _ => none }
theorem fld_ok {C : Cx LO} {P : LP} (hC : C.Rep = lexRep P) {d : Nat} (R : Rim (K02 Pm) p loose mean mg mb A₀ base outer A env C.h₀ C.L d) (hself : C.refs = [((ofString "self"), Value.ref P.lx)]) (hk : env.kindOf "self" = some .local) {X : Nat → Led → Shared → (Value → Shared → Prop) → Prop} : IfcOk prog w A C env (fldI P) X P.lx where
  orc o := {
    fn := R.hk
    loc := R.hl
    names := fun x hx => by cases hx
    attr := fun a v h ρ p1 p2 fz s Q E hA hq => by
      have hx : (match (lexFields P o).lookup a with | some (.v d) => some d | _ => none) = some v := h
      split at hx
      case h_2 => cases hx
      case h_1 d' hl =>
        cases hx
        refine Attribute_name ?_
        obtain ⟨h', tk, m, Rl, rfl, F, N, rp, ap, lc, rf⟩ := id hA
        refine wpAny_Name (wpAny_loadName_local R.hk hk (by rw [R.hl]; exact F.ns) (rf _ (by rw [hself]; exact .head _)) ?_) (by decide : ((ofString "self") == ("__debug__" : Str)) = false)
        exact get_field R hA (fun Rl hr => lex_here (hC ▸ hr)) hl (lex_get1 Pm) (lex_get2 Pm) (lex_find Pm hl) fun v' s' h' x => hq fz s' v' (fun _ h => h) h' x
    call := fun f ds d h => by cases h }
  hh := R.hh
  inter := R.hi
  push := fun o x d o' h => by cases h
  give := fun o x o' d h => by cases h
  off := fun q hq => rfl
  self := .inl (by rw [hself]; exact .head _)
  selfK := .inl ⟨hk, (by decide : ((ofString "self") == ("__debug__" : Str)) = false)⟩
  get := fun o a v h ρ fz s Q E hA hq => by
    have hx : (match (lexFields P o).lookup a with | some (.v d) => some d | _ => none) = some v := h
    split at hx
    case h_2 => cases hx
    case h_1 d' hl =>
      cases hx
      exact get_field R hA (fun Rl hr => lex_here (hC ▸ hr)) hl (lex_get1 Pm) (lex_get2 Pm) (lex_find Pm hl) fun v' s' h' x => hq fz s' v' (fun _ h => h) h' x
  set := fun o a d o' h => by cases h
  prim := fun o ρ st r h => by cases h
theorem punct_run (P : LP) (o : LO) (L : Addr) (cd : Value) (ρ : Loc) : execBK brO (fldI P) (envOf "shlex.punctuation_chars" (fscope (meth 19 1)) L 653 cd) none 20 o ρ (fbody (meth 19 1)) (fun o _ fl => some (o, fl)) = some (o, .ret (.str (S P.M))) := by kernel_rfl
theorem get_punct {C : Cx LO} {P : LP} (hC : C.Rep = lexRep P) {d : Nat} (R : Rim (K02 Pm) p loose mean mg mb A₀ base outer A env C.h₀ C.L (d + 1)) {o : LO} {ρ : Loc} {fz : Led} {s : Shared} {expr : Bool} {Q E : Value → Shared → Prop} (h : At C o ρ fz s)
    (hq : ∀ fz' s' v, Sub fz fz' → At C o ρ fz' s' → VR fz' (.str (S P.M)) v → Q v s') : wpAny (model prog w) A (getAttr (.ref P.lx) "punctuation_chars" expr) Q E s := by
  obtain ⟨hp, tk, m, Rl, rfl, F, N, rp, ap, lc, rf⟩ := id h
  obtain ⟨es, n, h1, h2, h3⟩ := lex_here (hC ▸ rp)
  have I : InstAt hp P.lx (instObj 722 P.ld) 722 (some (dictOf es n)) := ⟨(N _ (List.mem_append_left _ h1)).1, rfl, rfl, (N _ (List.mem_append_left _ h2)).1⟩
  refine get_prop (s := { C.s₀ with heap := hp, toks := tk }) F R.X I (lex_get1 Pm) (lex_get2 Pm) (punct_1 Pm) (punct_2 Pm) (punct_3 Pm) (fget := 653) (rest := [.none, .none, .none, .str "punctuation_chars" 1034, .bool false]) (by kernel_rfl) ?_
  refine call_enter (Post := fun o' dd => o' = o ∧ dd = .str (S P.M)) R.in1 (h.toks _) (name := "punctuation_chars") (qual := "shlex.punctuation_chars") (params := fpar (meth 19 1)) (body := fbody (meth 19 1)) (scope := fscope (meth 19 1)) (dV := .none) (kV := .none) (doc := .none) (pm := .str "cpy313.shlex" 1001) (cdv := .ref 652) (ct := .none) (oc := .type "function") (an := none) (od := none) (osl := #[]) (f := 653) (binds := [("self", .ref P.lx)])
    (by kernel_rfl) (by kernel_rfl) (BindsTo.of_eq (by kernel_rfl)) (by intro y hy; simp only [List.mem_singleton] at hy; subst hy; kernel_rfl) (by kernel_rfl) (by kernel_rfl) (by kernel_rfl) (by decide +kernel) (ρ' := []) (refs' := [("self", .ref P.lx)]) (fun _ _ hx => by cases hx) (fun q hq => by simp only [List.mem_singleton] at hq; subst hq; rfl)
    (fun g L' s' R' h' => ?_) fun fz' s' o' dd v e sb hA hv => ?_
  · have IK := fld_ok (prog := prog) (w := w) (C := calleeCx C g L' [((ofString "self"), Value.ref P.lx)]) (P := P) (X := fun _ _ _ _ => False) hC R' rfl (by kernel_rfl)
    obtain ⟨⟨o₂, ρ'', fl⟩, hb, e⟩ := (execK_ok IK 20).2 _ _ _ _ (punct_run P o L' (.ref 652) [])
    obtain ⟨rfl, rfl⟩ : o₂ = o ∧ fl = .ret (.str (S P.M)) := by simpa using e
    exact hb fz s' _ _ h' fun fz₂ s₂ s2 h2 v hv => ⟨fz₂, _, ρ'', _, s2, h2, hv, rfl, rfl⟩
  · obtain ⟨rfl, rfl⟩ := e
    refine wpAny_of_eq (handedOut_of (handed_V hv)) ?_
    exact hq fz' s' v sb hA hv
end
end
noncomputable def pastLine (T : List Nat) (k : Nat) : Nat := if firstAt 10 (T.drop k) k < 0 then T.length else (firstAt 10 (T.drop k) k).toNat + 1
noncomputable def natOf : V → Nat
  | .int i => i.toNat
  | _ => 0
noncomputable def posOk (P : LP) : V → Bool
  | .int k => decide (0 ≤ k) && decide (k ≤ P.T.length)
  | _ => false
noncomputable def vRaise0 : Stmt → Option (Expr × Pos)
  | .Raise e c p => gate c.isNone (opt e (fun e => some (e, p)) none) none
  | _ => none
theorem vRaise0_is {st : Stmt} {x : Expr × Pos} (h : vRaise0 st = some x) : st = .Raise (some x.1) none x.2 := by
  cases st with
  | Raise e c p =>
    obtain ⟨hc, h⟩ := gate_of h
    obtain ⟨e', rfl, h⟩ := opt_of h
    obtain rfl := sj h
    cases c with
    | none => rfl
    | some => exact absurd hc Bool.false_ne_true
  | _ => exact nn h
noncomputable def vRaise (st : Stmt) : Option (Str × Pos × Str × Nat × Pos × Pos × Pos) := opt (vRaise0 st) (fun t => opt (vCall t.1) (fun c => opt (nameOf1 c.1) (fun f => opt (one c.2.1) (fun a => opt (vStr a) (fun s => some (f, nmPos c.1, s.1, s.2.1, s.2.2, c.2.2, t.2)) none) none) none) none) none
theorem vRaise_is {st : Stmt} {q : Str × Pos × Str × Nat × Pos × Pos × Pos} (h : vRaise st = some q) : st = .Raise (some (.Call (.Name q.1 q.2.1) [.Constant (.str q.2.2.1) q.2.2.2.1 q.2.2.2.2.1] [] q.2.2.2.2.2.1)) none q.2.2.2.2.2.2 := by
  obtain ⟨⟨e, p⟩, h0, h⟩ := opt_of h
  obtain ⟨⟨g, args, p'⟩, h1, h⟩ := opt_of h
  obtain ⟨f, h2, h⟩ := opt_of h
  obtain ⟨a, h3, h⟩ := opt_of h
  obtain ⟨⟨s, k, ps⟩, h4, h⟩ := opt_of h
  obtain rfl := sj h
  have e1 := vCall_is h1
  have e2 := nameOf1_at h2
  have e3 := one_is h3
  have e4 := vStr_is h4
  dsimp only at e1 e2 e3 e4 ⊢
  rw [vRaise0_is h0, e1, e3, e4, ← e2]
noncomputable def vAct (st : Stmt) : Option (Str × Pos × Str × Pos × Str × Pos × List Expr × Pos × Pos) := opt (vExpr st) (fun s => opt (vCall s.1) (fun c => opt (vAttr c.1) (fun u => opt (vAttr u.1) (fun t => opt (nameOf1 t.1) (fun x => some (x, nmPos t.1, t.2.1, t.2.2, u.2.1, u.2.2, c.2.1, c.2.2, s.2)) none) none) none) none) none
theorem vAct_is {st : Stmt} {q : Str × Pos × Str × Pos × Str × Pos × List Expr × Pos × Pos} (h : vAct st = some q) : st = .Expr (.Call (.Attribute (.Attribute (.Name q.1 q.2.1) q.2.2.1 q.2.2.2.1) q.2.2.2.2.1 q.2.2.2.2.2.1) q.2.2.2.2.2.2.1 [] q.2.2.2.2.2.2.2.1) q.2.2.2.2.2.2.2.2 := by
  obtain ⟨⟨e, p⟩, h0, h⟩ := opt_of h
  obtain ⟨⟨g, args, p'⟩, h1, h⟩ := opt_of h
  obtain ⟨⟨g2, m, pm⟩, h2, h⟩ := opt_of h
  obtain ⟨⟨g3, a, pa⟩, h3, h⟩ := opt_of h
  obtain ⟨x, h4, h⟩ := opt_of h
  obtain rfl := sj h
  have e1 := vCall_is h1
  have e2 := vAttr_is h2
  have e3 := vAttr_is h3
  have e4 := nameOf1_at h4
  dsimp only at e1 e2 e3 e4 ⊢
  rw [vExpr_is h0, e1, e2, e3, ← e4]
noncomputable def lexPrim (o : LO) (ρ : Loc) (st : Stmt) : Option (LO × Loc × Fl) := opt (vRaise st) (fun q => gate (q.1 == "ValueError") (gate (q.2.2.1 == "No closing quotation") (some (o, ρ, .exc 1)) (gate (q.2.2.1 == "No escaped character") (some (o, ρ, .exc 2)) none)) none) none
noncomputable def lexPrimB (P : LP) (names : List Str) (o : LO) (ρ : Loc) (st : Stmt) : Option (Bool × LO × Loc × Fl) := opt (vAct st) (fun q => match q with
  | (x, _, a, _, m, p2, args, p3, _) => gate (x == "self" && p2.endLine == p3.line) (opt (one args)
      (fun e => opt (nameOf1 e) (fun y => gate (m == "append" && a == "_pushback_chars" && names.contains y && y != "__debug__") (opt (ρ.lookup y) (fun d => opt (strOf d) (fun s => some (decide (s.cps.toList.length = 1) && decide (o.pbs.length ≤ 800), { o with pbs := o.pbs ++ s.cps.toList }, ρ, .next)) none) none) none) none)
      (gate (m == "readline" && a == "instream" && args.isEmpty) (some (posOk P o.pos, { o with pos := .int ((pastLine P.T (natOf o.pos) : Nat) : Int) }, ρ, .next)) none)) none) none
noncomputable abbrev rE (L : Addr) (cd : Value) : Env := envOf "shlex.read_token" (fscope (meth 19 6)) L 690 cd
noncomputable abbrev rN : List Str := (locs (fscope (meth 19 6))).filter fun x : Str => !(x == ("self" : Str))
noncomputable abbrev rI (P : LP) : Ifc LO := { lexI P rN [] lexPrim with primB := lexPrimB P rN }
noncomputable abbrev rW : Stmt := hdS (fbody (meth 19 6)) 2
section
noncomputable abbrev lR (nc : Str) (quoted : Bool) (esc : Str) : Loc := [("nextchar", .str nc), ("quoted", .bool quoted), ("escapedstate", .str esc)]
noncomputable abbrev lO (st token : V) (ln ps : Int) (pbs : List Nat) : LO := ⟨st, token, .int ln, .int ps, pbs⟩
set_option maxHeartbeats 1000000
theorem rd_nil_t (lx ld io id pb fs pc : Addr) (T M W : List Nat) (L : Addr) (cd : Value) (nc token esc : Str) (ln ps : Int) (pbs : List Nat) (quoted : Bool) : runS (rI ⟨lx, ld, io, id, pb, fs, pc, T, M, W, true⟩) (rE L cd) 80 ⟨.str " ", .str token, .int ln, .int ps, pbs⟩ [("nextchar", .str nc), ("quoted", .bool quoted), ("escapedstate", .str esc)] (hdS (wbody rW) 3) =
 bif strOk nc then
 bif !Nat.cast (Str.length nc) != (0 : Int) then some (lO Dat.none (Dat.str token) ln ps pbs, lR nc quoted esc, Fl.brk)
 else
 bif Txt.contains (ofString " \t\x0d\n") nc then
 bif strOk token then
 bif Nat.cast (Str.length token) != (0 : Int) then
 bif strOk token then
 bif Nat.cast (Str.length token) != (0 : Int) then some ((lO (Dat.str (ofString " ")) (Dat.str token) ln ps pbs), lR nc quoted esc, Fl.brk)
 else some ((lO (Dat.str (ofString " ")) (Dat.str token) ln ps pbs), lR nc quoted esc, Fl.cont)
 else none
 else
 bif quoted then some ((lO (Dat.str (ofString " ")) (Dat.str token) ln ps pbs), lR nc quoted esc, Fl.brk)
 else some ((lO (Dat.str (ofString " ")) (Dat.str token) ln ps pbs), lR nc quoted esc, Fl.cont)
 else none
 else
 bif Txt.contains (ofString "#") nc then
 bif posOk { lx := lx, ld := ld, io := io, id := id, pb := pb, fs := fs, pc := pc, T := T, M := M, W := W, posix := true } (Dat.int ps) then
 some ((lO (Dat.str (ofString " ")) (Dat.str token) ((ln + 1)) ((Nat.cast (pastLine T (natOf (Dat.int ps))))) pbs), lR nc quoted esc, Fl.next)
 else none
 else
 bif Txt.contains (ofString "\\") nc then some ((lO (Dat.str nc) (Dat.str token) ln ps pbs), ((ofString "escapedstate", Dat.str (ofString "a")) :: lR nc quoted esc), Fl.next)
 else
 bif Txt.contains (S W) nc then
 some ({ state := Dat.str (ofString "a"), token := Dat.str nc, lineno := Dat.int ln, pos := Dat.int ps, pbs := LO.pbs (lO (Dat.str (ofString " ")) (Dat.str token) ln ps pbs) }, lR nc quoted esc, Fl.next)
 else
 bif Txt.contains (S M) nc then
 some
 ({ state := Dat.str (ofString "c"), token := Dat.str nc, lineno := Dat.int ln, pos := Dat.int ps, pbs := LO.pbs (lO (Dat.str (ofString " ")) (Dat.str token) ln ps pbs) }, lR nc quoted esc, Fl.next)
 else
 bif Txt.contains (ofString "'\"") nc then some ((lO (Dat.str nc) (Dat.str token) ln ps pbs), lR nc quoted esc, Fl.next)
 else
 bif strOk nc then
 bif Nat.cast (Str.length nc) != (0 : Int) then
 bif strOk nc then
 bif Nat.cast (Str.length nc) != (0 : Int) then some ((lO (Dat.str (ofString " ")) (Dat.str nc) ln ps pbs), lR nc quoted esc, Fl.brk)
 else some ((lO (Dat.str (ofString " ")) (Dat.str nc) ln ps pbs), lR nc quoted esc, Fl.cont)
 else none
 else
 bif quoted then some ((lO (Dat.str (ofString " ")) (Dat.str nc) ln ps pbs), lR nc quoted esc, Fl.brk)
 else some ((lO (Dat.str (ofString " ")) (Dat.str nc) ln ps pbs), lR nc quoted esc, Fl.cont)
 else none
 else none := by kernel_rfl
theorem rd_nil_f (lx ld io id pb fs pc : Addr) (T M W : List Nat) (L : Addr) (cd : Value) (nc token esc : Str) (ln ps : Int) (pbs : List Nat) (quoted : Bool) : runS (rI ⟨lx, ld, io, id, pb, fs, pc, T, M, W, false⟩) (rE L cd) 80 ⟨.str " ", .str token, .int ln, .int ps, pbs⟩ [("nextchar", .str nc), ("quoted", .bool quoted), ("escapedstate", .str esc)] (hdS (wbody rW) 3) =
 bif strOk nc then
 bif !Nat.cast (Str.length nc) != (0 : Int) then some (lO Dat.none (Dat.str token) ln ps pbs, lR nc quoted esc, Fl.brk)
 else
 bif Txt.contains (ofString " \t\x0d\n") nc then
 bif strOk token then
 bif Nat.cast (Str.length token) != (0 : Int) then
 bif strOk token then
 bif Nat.cast (Str.length token) != (0 : Int) then some ((lO (Dat.str (ofString " ")) (Dat.str token) ln ps pbs), lR nc quoted esc, Fl.brk)
 else some ((lO (Dat.str (ofString " ")) (Dat.str token) ln ps pbs), lR nc quoted esc, Fl.cont)
 else none
 else some ((lO (Dat.str (ofString " ")) (Dat.str token) ln ps pbs), lR nc quoted esc, Fl.cont)
 else none
 else
 bif Txt.contains (ofString "#") nc then
 bif posOk { lx := lx, ld := ld, io := io, id := id, pb := pb, fs := fs, pc := pc, T := T, M := M, W := W, posix := false } (Dat.int ps) then
 some ((lO (Dat.str (ofString " ")) (Dat.str token) ((ln + 1)) ((Nat.cast (pastLine T (natOf (Dat.int ps))))) pbs), lR nc quoted esc, Fl.next)
 else none
 else
 bif Txt.contains (S W) nc then
 some ({ state := Dat.str (ofString "a"), token := Dat.str nc, lineno := Dat.int ln, pos := Dat.int ps, pbs := LO.pbs (lO (Dat.str (ofString " ")) (Dat.str token) ln ps pbs) }, lR nc quoted esc, Fl.next)
 else
 bif Txt.contains (S M) nc then
 some ({ state := Dat.str (ofString "c"), token := Dat.str nc, lineno := Dat.int ln, pos := Dat.int ps, pbs := LO.pbs (lO (Dat.str (ofString " ")) (Dat.str token) ln ps pbs) }, lR nc quoted esc, Fl.next)
 else
 bif Txt.contains (ofString "'\"") nc then
 some ({ state := Dat.str nc, token := Dat.str nc, lineno := Dat.int ln, pos := Dat.int ps, pbs := LO.pbs (lO (Dat.str (ofString " ")) (Dat.str token) ln ps pbs) }, lR nc quoted esc, Fl.next)
 else
 bif strOk nc then
 bif Nat.cast (Str.length nc) != (0 : Int) then
 bif strOk nc then
 bif Nat.cast (Str.length nc) != (0 : Int) then some ((lO (Dat.str (ofString " ")) (Dat.str nc) ln ps pbs), lR nc quoted esc, Fl.brk)
 else some ((lO (Dat.str (ofString " ")) (Dat.str nc) ln ps pbs), lR nc quoted esc, Fl.cont)
 else none
 else some ((lO (Dat.str (ofString " ")) (Dat.str nc) ln ps pbs), lR nc quoted esc, Fl.cont)
 else none
 else none := by kernel_rfl
theorem rd_a_t (lx ld io id pb fs pc : Addr) (T M W : List Nat) (L : Addr) (cd : Value) (nc token esc : Str) (ln ps : Int) (pbs : List Nat) (quoted : Bool) : runS (rI ⟨lx, ld, io, id, pb, fs, pc, T, M, W, true⟩) (rE L cd) 80 ⟨.str "a", .str token, .int ln, .int ps, pbs⟩ [("nextchar", .str nc), ("quoted", .bool quoted), ("escapedstate", .str esc)] (hdS (wbody rW) 3) =
 bif strOk nc then
 bif !Nat.cast (Str.length nc) != (0 : Int) then some (lO Dat.none (Dat.str token) ln ps pbs, lR nc quoted esc, Fl.brk)
 else
 bif Txt.contains (ofString " \t\x0d\n") nc then
 bif strOk token then
 bif Nat.cast (Str.length token) != (0 : Int) then
 bif strOk token then
 bif Nat.cast (Str.length token) != (0 : Int) then some ((lO (Dat.str (ofString " ")) (Dat.str token) ln ps pbs), lR nc quoted esc, Fl.brk)
 else some ((lO (Dat.str (ofString " ")) (Dat.str token) ln ps pbs), lR nc quoted esc, Fl.cont)
 else none
 else
 bif quoted then some ((lO (Dat.str (ofString " ")) (Dat.str token) ln ps pbs), lR nc quoted esc, Fl.brk)
 else some ((lO (Dat.str (ofString " ")) (Dat.str token) ln ps pbs), lR nc quoted esc, Fl.cont)
 else none
 else
 bif Txt.contains (ofString "#") nc then
 bif posOk { lx := lx, ld := ld, io := io, id := id, pb := pb, fs := fs, pc := pc, T := T, M := M, W := W, posix := true } (Dat.int ps) then
 bif strOk token then
 bif Nat.cast (Str.length token) != (0 : Int) then
 bif strOk token then
 bif Nat.cast (Str.length token) != (0 : Int) then
 some
 ({ state := Dat.str (ofString " "), token := Dat.str token, lineno := Dat.int (ln + 1), pos := Dat.int (Nat.cast (pastLine T (natOf (Dat.int ps)))), pbs := LO.pbs (lO (Dat.str (ofString "a")) (Dat.str token) ln ((Nat.cast (pastLine T (natOf (Dat.int ps))))) pbs) },
 lR nc quoted esc, Fl.brk)
 else
 some
 ({ state := Dat.str (ofString " "), token := Dat.str token, lineno := Dat.int (ln + 1), pos := Dat.int (Nat.cast (pastLine T (natOf (Dat.int ps)))), pbs := LO.pbs (lO (Dat.str (ofString "a")) (Dat.str token) ln ((Nat.cast (pastLine T (natOf (Dat.int ps))))) pbs) },
 lR nc quoted esc, Fl.cont)
 else none
 else
 bif quoted then
 some
 ({ state := Dat.str (ofString " "), token := Dat.str token, lineno := Dat.int (ln + 1), pos := Dat.int (Nat.cast (pastLine T (natOf (Dat.int ps)))), pbs := LO.pbs (lO (Dat.str (ofString "a")) (Dat.str token) ln ((Nat.cast (pastLine T (natOf (Dat.int ps))))) pbs) },
 lR nc quoted esc, Fl.brk)
 else
 some
 ({ state := Dat.str (ofString " "), token := Dat.str token, lineno := Dat.int (ln + 1), pos := Dat.int (Nat.cast (pastLine T (natOf (Dat.int ps)))), pbs := LO.pbs (lO (Dat.str (ofString "a")) (Dat.str token) ln ((Nat.cast (pastLine T (natOf (Dat.int ps))))) pbs) },
 lR nc quoted esc, Fl.cont)
 else none
 else none
 else
 bif Txt.contains (ofString "'\"") nc then some ((lO (Dat.str nc) (Dat.str token) ln ps pbs), lR nc quoted esc, Fl.next)
 else
 bif Txt.contains (ofString "\\") nc then some ((lO (Dat.str nc) (Dat.str token) ln ps pbs), ((ofString "escapedstate", Dat.str (ofString "a")) :: lR nc quoted esc), Fl.next)
 else
 bif Txt.contains (S W) nc then bif strOk token && strOk nc then some ((lO (Dat.str (ofString "a")) (Dat.str (token ++ nc)) ln ps pbs), lR nc quoted esc, Fl.next) else none
 else
 bif Txt.contains (ofString "'\"") nc then bif strOk token && strOk nc then some ((lO (Dat.str (ofString "a")) (Dat.str (token ++ nc)) ln ps pbs), lR nc quoted esc, Fl.next) else none
 else
 bif strOk (S M) then
 bif Nat.cast (Str.length (S M)) != (0 : Int) then
 bif decide (List.length (Array.toList (Str.cps nc)) = 1) && decide (List.length (LO.pbs (lO (Dat.str (ofString "a")) (Dat.str token) ln ps pbs)) ≤ 800) then
 bif strOk token then
 bif Nat.cast (Str.length token) != (0 : Int) then
 bif strOk token then
 bif Nat.cast (Str.length token) != (0 : Int) then some ((lO (Dat.str (ofString " ")) (Dat.str token) ln ps (pbs ++ Array.toList (Str.cps nc))), lR nc quoted esc, Fl.brk)
 else some ((lO (Dat.str (ofString " ")) (Dat.str token) ln ps (pbs ++ Array.toList (Str.cps nc))), lR nc quoted esc, Fl.cont)
 else none
 else
 bif quoted then some ((lO (Dat.str (ofString " ")) (Dat.str token) ln ps (pbs ++ Array.toList (Str.cps nc))), lR nc quoted esc, Fl.brk)
 else some ((lO (Dat.str (ofString " ")) (Dat.str token) ln ps (pbs ++ Array.toList (Str.cps nc))), lR nc quoted esc, Fl.cont)
 else none
 else none
 else none
 else none
 else none := by kernel_rfl
theorem rd_a_f (lx ld io id pb fs pc : Addr) (T M W : List Nat) (L : Addr) (cd : Value) (nc token esc : Str) (ln ps : Int) (pbs : List Nat) (quoted : Bool) : runS (rI ⟨lx, ld, io, id, pb, fs, pc, T, M, W, false⟩) (rE L cd) 80 ⟨.str "a", .str token, .int ln, .int ps, pbs⟩ [("nextchar", .str nc), ("quoted", .bool quoted), ("escapedstate", .str esc)] (hdS (wbody rW) 3) =
 bif strOk nc then
 bif !Nat.cast (Str.length nc) != (0 : Int) then some (lO Dat.none (Dat.str token) ln ps pbs, lR nc quoted esc, Fl.brk)
 else
 bif Txt.contains (ofString " \t\x0d\n") nc then
 bif strOk token then
 bif Nat.cast (Str.length token) != (0 : Int) then
 bif strOk token then
 bif Nat.cast (Str.length token) != (0 : Int) then some ((lO (Dat.str (ofString " ")) (Dat.str token) ln ps pbs), lR nc quoted esc, Fl.brk)
 else some ((lO (Dat.str (ofString " ")) (Dat.str token) ln ps pbs), lR nc quoted esc, Fl.cont)
 else none
 else some ((lO (Dat.str (ofString " ")) (Dat.str token) ln ps pbs), lR nc quoted esc, Fl.cont)
 else none
 else
 bif Txt.contains (ofString "#") nc then
 bif posOk { lx := lx, ld := ld, io := io, id := id, pb := pb, fs := fs, pc := pc, T := T, M := M, W := W, posix := false } (Dat.int ps) then
 some ((lO (Dat.str (ofString "a")) (Dat.str token) ((ln + 1)) ((Nat.cast (pastLine T (natOf (Dat.int ps))))) pbs), lR nc quoted esc, Fl.next)
 else none
 else
 bif Txt.contains (S W) nc then bif strOk token && strOk nc then some ((lO (Dat.str (ofString "a")) (Dat.str (token ++ nc)) ln ps pbs), lR nc quoted esc, Fl.next) else none
 else
 bif Txt.contains (ofString "'\"") nc then bif strOk token && strOk nc then some ((lO (Dat.str (ofString "a")) (Dat.str (token ++ nc)) ln ps pbs), lR nc quoted esc, Fl.next) else none
 else
 bif strOk (S M) then
 bif Nat.cast (Str.length (S M)) != (0 : Int) then
 bif decide (List.length (Array.toList (Str.cps nc)) = 1) && decide (List.length (LO.pbs (lO (Dat.str (ofString "a")) (Dat.str token) ln ps pbs)) ≤ 800) then
 bif strOk token then
 bif Nat.cast (Str.length token) != (0 : Int) then
 bif strOk token then
 bif Nat.cast (Str.length token) != (0 : Int) then some ((lO (Dat.str (ofString " ")) (Dat.str token) ln ps (pbs ++ Array.toList (Str.cps nc))), lR nc quoted esc, Fl.brk)
 else some ((lO (Dat.str (ofString " ")) (Dat.str token) ln ps (pbs ++ Array.toList (Str.cps nc))), lR nc quoted esc, Fl.cont)
 else none
 else some ((lO (Dat.str (ofString " ")) (Dat.str token) ln ps (pbs ++ Array.toList (Str.cps nc))), lR nc quoted esc, Fl.cont)
 else none
 else none
 else none
 else none
 else none := by kernel_rfl
theorem rd_c_t (lx ld io id pb fs pc : Addr) (T M W : List Nat) (L : Addr) (cd : Value) (nc token esc : Str) (ln ps : Int) (pbs : List Nat) (quoted : Bool) : runS (rI ⟨lx, ld, io, id, pb, fs, pc, T, M, W, true⟩) (rE L cd) 80 ⟨.str "c", .str token, .int ln, .int ps, pbs⟩ [("nextchar", .str nc), ("quoted", .bool quoted), ("escapedstate", .str esc)] (hdS (wbody rW) 3) =
 bif strOk nc then
 bif !Nat.cast (Str.length nc) != (0 : Int) then some (lO Dat.none (Dat.str token) ln ps pbs, lR nc quoted esc, Fl.brk)
 else
 bif Txt.contains (ofString " \t\x0d\n") nc then
 bif strOk token then
 bif Nat.cast (Str.length token) != (0 : Int) then
 bif strOk token then
 bif Nat.cast (Str.length token) != (0 : Int) then some ((lO (Dat.str (ofString " ")) (Dat.str token) ln ps pbs), lR nc quoted esc, Fl.brk)
 else some ((lO (Dat.str (ofString " ")) (Dat.str token) ln ps pbs), lR nc quoted esc, Fl.cont)
 else none
 else
 bif quoted then some ((lO (Dat.str (ofString " ")) (Dat.str token) ln ps pbs), lR nc quoted esc, Fl.brk)
 else some ((lO (Dat.str (ofString " ")) (Dat.str token) ln ps pbs), lR nc quoted esc, Fl.cont)
 else none
 else
 bif Txt.contains (ofString "#") nc then
 bif posOk { lx := lx, ld := ld, io := io, id := id, pb := pb, fs := fs, pc := pc, T := T, M := M, W := W, posix := true } (Dat.int ps) then
 bif strOk token then
 bif Nat.cast (Str.length token) != (0 : Int) then
 bif strOk token then
 bif Nat.cast (Str.length token) != (0 : Int) then
 some
 ({ state := Dat.str (ofString " "), token := Dat.str token, lineno := Dat.int (ln + 1), pos := Dat.int (Nat.cast (pastLine T (natOf (Dat.int ps)))), pbs := LO.pbs (lO (Dat.str (ofString "c")) (Dat.str token) ln ((Nat.cast (pastLine T (natOf (Dat.int ps))))) pbs) },
 lR nc quoted esc, Fl.brk)
 else
 some
 ({ state := Dat.str (ofString " "), token := Dat.str token, lineno := Dat.int (ln + 1), pos := Dat.int (Nat.cast (pastLine T (natOf (Dat.int ps)))), pbs := LO.pbs (lO (Dat.str (ofString "c")) (Dat.str token) ln ((Nat.cast (pastLine T (natOf (Dat.int ps))))) pbs) },
 lR nc quoted esc, Fl.cont)
 else none
 else
 bif quoted then
 some
 ({ state := Dat.str (ofString " "), token := Dat.str token, lineno := Dat.int (ln + 1), pos := Dat.int (Nat.cast (pastLine T (natOf (Dat.int ps)))), pbs := LO.pbs (lO (Dat.str (ofString "c")) (Dat.str token) ln ((Nat.cast (pastLine T (natOf (Dat.int ps))))) pbs) },
 lR nc quoted esc, Fl.brk)
 else
 some
 ({ state := Dat.str (ofString " "), token := Dat.str token, lineno := Dat.int (ln + 1), pos := Dat.int (Nat.cast (pastLine T (natOf (Dat.int ps)))), pbs := LO.pbs (lO (Dat.str (ofString "c")) (Dat.str token) ln ((Nat.cast (pastLine T (natOf (Dat.int ps))))) pbs) },
 lR nc quoted esc, Fl.cont)
 else none
 else none
 else
 bif Txt.contains (S M) nc then bif strOk token && strOk nc then some ((lO (Dat.str (ofString "c")) (Dat.str (token ++ nc)) ln ps pbs), lR nc quoted esc, Fl.next) else none
 else
 bif !Txt.contains (ofString " \t\x0d\n") nc then
 bif decide (List.length (Array.toList (Str.cps nc)) = 1) && decide (List.length (LO.pbs (lO (Dat.str (ofString "c")) (Dat.str token) ln ps pbs)) ≤ 800) then
 some ((lO (Dat.str (ofString " ")) (Dat.str token) ln ps (pbs ++ Array.toList (Str.cps nc))), lR nc quoted esc, Fl.brk)
 else none
 else some ((lO (Dat.str (ofString " ")) (Dat.str token) ln ps pbs), lR nc quoted esc, Fl.brk)
 else none := by kernel_rfl
theorem rd_c_f (lx ld io id pb fs pc : Addr) (T M W : List Nat) (L : Addr) (cd : Value) (nc token esc : Str) (ln ps : Int) (pbs : List Nat) (quoted : Bool) : runS (rI ⟨lx, ld, io, id, pb, fs, pc, T, M, W, false⟩) (rE L cd) 80 ⟨.str "c", .str token, .int ln, .int ps, pbs⟩ [("nextchar", .str nc), ("quoted", .bool quoted), ("escapedstate", .str esc)] (hdS (wbody rW) 3) =
 bif strOk nc then
 bif !Nat.cast (Str.length nc) != (0 : Int) then some (lO Dat.none (Dat.str token) ln ps pbs, lR nc quoted esc, Fl.brk)
 else
 bif Txt.contains (ofString " \t\x0d\n") nc then
 bif strOk token then
 bif Nat.cast (Str.length token) != (0 : Int) then
 bif strOk token then
 bif Nat.cast (Str.length token) != (0 : Int) then some ((lO (Dat.str (ofString " ")) (Dat.str token) ln ps pbs), lR nc quoted esc, Fl.brk)
 else some ((lO (Dat.str (ofString " ")) (Dat.str token) ln ps pbs), lR nc quoted esc, Fl.cont)
 else none
 else some ((lO (Dat.str (ofString " ")) (Dat.str token) ln ps pbs), lR nc quoted esc, Fl.cont)
 else none
 else
 bif Txt.contains (ofString "#") nc then
 bif posOk { lx := lx, ld := ld, io := io, id := id, pb := pb, fs := fs, pc := pc, T := T, M := M, W := W, posix := false } (Dat.int ps) then
 some ((lO (Dat.str (ofString "c")) (Dat.str token) ((ln + 1)) ((Nat.cast (pastLine T (natOf (Dat.int ps))))) pbs), lR nc quoted esc, Fl.next)
 else none
 else
 bif Txt.contains (S M) nc then bif strOk token && strOk nc then some ((lO (Dat.str (ofString "c")) (Dat.str (token ++ nc)) ln ps pbs), lR nc quoted esc, Fl.next) else none
 else
 bif !Txt.contains (ofString " \t\x0d\n") nc then
 bif decide (List.length (Array.toList (Str.cps nc)) = 1) && decide (List.length (LO.pbs (lO (Dat.str (ofString "c")) (Dat.str token) ln ps pbs)) ≤ 800) then
 some ((lO (Dat.str (ofString " ")) (Dat.str token) ln ps (pbs ++ Array.toList (Str.cps nc))), lR nc quoted esc, Fl.brk)
 else none
 else some ((lO (Dat.str (ofString " ")) (Dat.str token) ln ps pbs), lR nc quoted esc, Fl.brk)
 else none := by kernel_rfl
theorem rd_dq_t (lx ld io id pb fs pc : Addr) (T M W : List Nat) (L : Addr) (cd : Value) (nc token esc : Str) (ln ps : Int) (pbs : List Nat) (quoted : Bool) : runS (rI ⟨lx, ld, io, id, pb, fs, pc, T, M, W, true⟩) (rE L cd) 80 ⟨.str "\"", .str token, .int ln, .int ps, pbs⟩ [("nextchar", .str nc), ("quoted", .bool quoted), ("escapedstate", .str esc)] (hdS (wbody rW) 3) =
 bif strOk nc then
 bif !Nat.cast (Str.length nc) != (0 : Int) then some ((lO (Dat.str (ofString "\"")) (Dat.str token) ln ps pbs), ((ofString "quoted", Dat.bool true) :: lR nc quoted esc), Fl.exc 1)
 else
 bif strEq nc (ofString "\"") then some ((lO (Dat.str (ofString "a")) (Dat.str token) ln ps pbs), ((ofString "quoted", Dat.bool true) :: lR nc quoted esc), Fl.next)
 else
 bif Txt.contains (ofString "\\") nc then
 some ((lO (Dat.str nc) (Dat.str token) ln ps pbs), ((ofString "escapedstate", Dat.str (ofString "\"")) :: (ofString "quoted", Dat.bool true) :: lR nc quoted esc), Fl.next)
 else bif strOk token && strOk nc then some ((lO (Dat.str (ofString "\"")) (Dat.str (token ++ nc)) ln ps pbs), ((ofString "quoted", Dat.bool true) :: lR nc quoted esc), Fl.next) else none
 else none := by kernel_rfl
theorem rd_dq_f (lx ld io id pb fs pc : Addr) (T M W : List Nat) (L : Addr) (cd : Value) (nc token esc : Str) (ln ps : Int) (pbs : List Nat) (quoted : Bool) : runS (rI ⟨lx, ld, io, id, pb, fs, pc, T, M, W, false⟩) (rE L cd) 80 ⟨.str "\"", .str token, .int ln, .int ps, pbs⟩ [("nextchar", .str nc), ("quoted", .bool quoted), ("escapedstate", .str esc)] (hdS (wbody rW) 3) =
 bif strOk nc then
 bif !Nat.cast (Str.length nc) != (0 : Int) then some ((lO (Dat.str (ofString "\"")) (Dat.str token) ln ps pbs), ((ofString "quoted", Dat.bool true) :: lR nc quoted esc), Fl.exc 1)
 else
 bif strEq nc (ofString "\"") then
 bif strOk token && strOk nc then
 some
 ({ state := Dat.str (ofString " "), token := Dat.str (token ++ nc), lineno := Dat.int ln, pos := Dat.int ps, pbs := LO.pbs (lO (Dat.str (ofString "\"")) (Dat.str token) ln ps pbs) },
 ((ofString "quoted", Dat.bool true) :: lR nc quoted esc), Fl.brk)
 else none
 else bif strOk token && strOk nc then some ((lO (Dat.str (ofString "\"")) (Dat.str (token ++ nc)) ln ps pbs), ((ofString "quoted", Dat.bool true) :: lR nc quoted esc), Fl.next) else none
 else none := by kernel_rfl
theorem rd_sq_t (lx ld io id pb fs pc : Addr) (T M W : List Nat) (L : Addr) (cd : Value) (nc token esc : Str) (ln ps : Int) (pbs : List Nat) (quoted : Bool) : runS (rI ⟨lx, ld, io, id, pb, fs, pc, T, M, W, true⟩) (rE L cd) 80 ⟨.str "'", .str token, .int ln, .int ps, pbs⟩ [("nextchar", .str nc), ("quoted", .bool quoted), ("escapedstate", .str esc)] (hdS (wbody rW) 3) =
 bif strOk nc then
 bif !Nat.cast (Str.length nc) != (0 : Int) then some ((lO (Dat.str (ofString "'")) (Dat.str token) ln ps pbs), ((ofString "quoted", Dat.bool true) :: lR nc quoted esc), Fl.exc 1)
 else
 bif strEq nc (ofString "'") then some ((lO (Dat.str (ofString "a")) (Dat.str token) ln ps pbs), ((ofString "quoted", Dat.bool true) :: lR nc quoted esc), Fl.next)
 else
 bif Txt.contains (ofString "\\") nc then
 bif strOk token && strOk nc then some ((lO (Dat.str (ofString "'")) (Dat.str (token ++ nc)) ln ps pbs), ((ofString "quoted", Dat.bool true) :: lR nc quoted esc), Fl.next) else none
 else bif strOk token && strOk nc then some ((lO (Dat.str (ofString "'")) (Dat.str (token ++ nc)) ln ps pbs), ((ofString "quoted", Dat.bool true) :: lR nc quoted esc), Fl.next) else none
 else none := by kernel_rfl
theorem rd_sq_f (lx ld io id pb fs pc : Addr) (T M W : List Nat) (L : Addr) (cd : Value) (nc token esc : Str) (ln ps : Int) (pbs : List Nat) (quoted : Bool) : runS (rI ⟨lx, ld, io, id, pb, fs, pc, T, M, W, false⟩) (rE L cd) 80 ⟨.str "'", .str token, .int ln, .int ps, pbs⟩ [("nextchar", .str nc), ("quoted", .bool quoted), ("escapedstate", .str esc)] (hdS (wbody rW) 3) =
 bif strOk nc then
 bif !Nat.cast (Str.length nc) != (0 : Int) then some ((lO (Dat.str (ofString "'")) (Dat.str token) ln ps pbs), ((ofString "quoted", Dat.bool true) :: lR nc quoted esc), Fl.exc 1)
 else
 bif strEq nc (ofString "'") then
 bif strOk token && strOk nc then
 some
 ({ state := Dat.str (ofString " "), token := Dat.str (token ++ nc), lineno := Dat.int ln, pos := Dat.int ps, pbs := LO.pbs (lO (Dat.str (ofString "'")) (Dat.str token) ln ps pbs) },
 ((ofString "quoted", Dat.bool true) :: lR nc quoted esc), Fl.brk)
 else none
 else bif strOk token && strOk nc then some ((lO (Dat.str (ofString "'")) (Dat.str (token ++ nc)) ln ps pbs), ((ofString "quoted", Dat.bool true) :: lR nc quoted esc), Fl.next) else none
 else none := by kernel_rfl
theorem rd_none_t (lx ld io id pb fs pc : Addr) (T M W : List Nat) (L : Addr) (cd : Value) (nc token esc : Str) (ln ps : Int) (pbs : List Nat) (quoted : Bool) : runS (rI ⟨lx, ld, io, id, pb, fs, pc, T, M, W, true⟩) (rE L cd) 80 ⟨.none, .str token, .int ln, .int ps, pbs⟩ [("nextchar", .str nc), ("quoted", .bool quoted), ("escapedstate", .str esc)] (hdS (wbody rW) 3) =
 some (lO Dat.none (Dat.str (ofString "")) ln ps pbs, lR nc quoted esc, Fl.brk) := by kernel_rfl
theorem rd_none_f (lx ld io id pb fs pc : Addr) (T M W : List Nat) (L : Addr) (cd : Value) (nc token esc : Str) (ln ps : Int) (pbs : List Nat) (quoted : Bool) : runS (rI ⟨lx, ld, io, id, pb, fs, pc, T, M, W, false⟩) (rE L cd) 80 ⟨.none, .str token, .int ln, .int ps, pbs⟩ [("nextchar", .str nc), ("quoted", .bool quoted), ("escapedstate", .str esc)] (hdS (wbody rW) 3) =
 some (lO Dat.none (Dat.str (ofString "")) ln ps pbs, lR nc quoted esc, Fl.brk) := by kernel_rfl
theorem rd_bs_a (lx ld io id pb fs pc : Addr) (T M W : List Nat) (L : Addr) (cd : Value) (nc token : Str) (ln ps : Int) (pbs : List Nat) (quoted : Bool) : runS (rI ⟨lx, ld, io, id, pb, fs, pc, T, M, W, true⟩) (rE L cd) 80 ⟨.str "\\", .str token, .int ln, .int ps, pbs⟩ [("nextchar", .str nc), ("quoted", .bool quoted), ("escapedstate", .str "a")] (hdS (wbody rW) 3) =
 bif strOk nc then
 bif !Nat.cast (Str.length nc) != (0 : Int) then some ((lO (Dat.str (ofString "\\")) (Dat.str token) ln ps pbs), [(ofString "nextchar", Dat.str nc), (ofString "quoted", Dat.bool quoted), (ofString "escapedstate", Dat.str (ofString "a"))], Fl.exc 2)
 else
 bif strOk token && strOk nc then
 some
 ({ state := Dat.str (ofString "a"), token := Dat.str (token ++ nc), lineno := Dat.int ln, pos := Dat.int ps, pbs := LO.pbs (lO (Dat.str (ofString "\\")) (Dat.str token) ln ps pbs) },
 [(ofString "nextchar", Dat.str nc), (ofString "quoted", Dat.bool quoted), (ofString "escapedstate", Dat.str (ofString "a"))], Fl.next)
 else none
 else none := by kernel_rfl
theorem rd_bs_d (lx ld io id pb fs pc : Addr) (T M W : List Nat) (L : Addr) (cd : Value) (nc token : Str) (ln ps : Int) (pbs : List Nat) (quoted : Bool) : runS (rI ⟨lx, ld, io, id, pb, fs, pc, T, M, W, true⟩) (rE L cd) 80 ⟨.str "\\", .str token, .int ln, .int ps, pbs⟩ [("nextchar", .str nc), ("quoted", .bool quoted), ("escapedstate", .str "\"")] (hdS (wbody rW) 3) =
 bif strOk nc then
 bif !Nat.cast (Str.length nc) != (0 : Int) then some ((lO (Dat.str (ofString "\\")) (Dat.str token) ln ps pbs), [(ofString "nextchar", Dat.str nc), (ofString "quoted", Dat.bool quoted), (ofString "escapedstate", Dat.str (ofString "\""))], Fl.exc 2)
 else
 bif !strEq nc (ofString "\\") then
 bif !strEq nc (ofString "\"") then
 bif strOk token && true then
 bif strOk (token ++ ofString "\\") && strOk nc then
 some
 ({ state := Dat.str (ofString "\""), token := Dat.str (token ++ ofString "\\" ++ nc), lineno := Dat.int ln, pos := Dat.int ps, pbs := LO.pbs (lO (Dat.str (ofString "\\")) (Dat.str (token ++ ofString "\\")) ln ps pbs) },
 [(ofString "nextchar", Dat.str nc), (ofString "quoted", Dat.bool quoted), (ofString "escapedstate", Dat.str (ofString "\""))], Fl.next)
 else none
 else none
 else
 bif strOk token && strOk nc then
 some
 ({ state := Dat.str (ofString "\""), token := Dat.str (token ++ nc), lineno := Dat.int ln, pos := Dat.int ps, pbs := LO.pbs (lO (Dat.str (ofString "\\")) (Dat.str token) ln ps pbs) },
 [(ofString "nextchar", Dat.str nc), (ofString "quoted", Dat.bool quoted), (ofString "escapedstate", Dat.str (ofString "\""))], Fl.next)
 else none
 else
 bif strOk token && strOk nc then
 some
 ({ state := Dat.str (ofString "\""), token := Dat.str (token ++ nc), lineno := Dat.int ln, pos := Dat.int ps, pbs := LO.pbs (lO (Dat.str (ofString "\\")) (Dat.str token) ln ps pbs) },
 [(ofString "nextchar", Dat.str nc), (ofString "quoted", Dat.bool quoted), (ofString "escapedstate", Dat.str (ofString "\""))], Fl.next)
 else none
 else none := by kernel_rfl
end
noncomputable def intV (l : List V) : Option (Bool × V) := opt (aI l) (fun n => some (true, .int n)) none
noncomputable def indexSp (l : List V) : Option (Bool × V) := opt (aIS l) (fun q => some (decide (-1000000 ≤ q.1) && decide (q.1 ≤ 1000000), .int q.1)) none
section
variable {prog : Program} {w : World} {P : Params} {p : Program} {loose : List Str} {mean : ExcName → Option Value} {mg mb : Str → Option Value}
theorem int_pure (d : Nat) : PureC prog w (K02 P) p loose mean mg mb "int" d intV := by
  intro O C A₀ base outer A env o ρ fz s R h hkind args pos q ds r hr hs hne Q E hw
  refine Call_Name rfl (blt_name R h (v := .type "int") (by kernel_rfl) (by kernel_rfl) (by decide) hkind (by decide) ?_)
  cases args with
  | nil => exact absurd rfl hne
  | cons e rest =>
    rw [List.all_cons, Bool.and_eq_true] at hs
    refine PyProof.Rows.callWith_type1 (wpAny_mono hw (fun vs s₁ x => ?_) fun _ _ x => x) (star_off hs.1) (plain_off pos hs.2)
    obtain ⟨fz₁, sb, h₁, hv, hq⟩ := x
    obtain ⟨x, h1, hr⟩ := opt_of hr
    obtain ⟨_, e⟩ := Prod.mk.inj (sj hr)
    rw [aI_is h1] at hv
    rw [← e] at hq
    obtain ⟨v, rfl, xv⟩ := datAll_1 hv
    obtain ⟨t, rfl⟩ := vr_int xv
    exact call_int_int (hq fz₁ _ _ (fun _ h => h) h₁ (.int _ _))
noncomputable abbrev xE (L : Addr) (cd : Value) : Env := envOf "_index" (fscope (stAt 4)) L 53 cd
noncomputable abbrev xI (O : Type) : Ifc O := pureI O (locs (fscope (stAt 4))) [("int", intV)]
theorem index_rest (O : Type) (o : O) (L : Addr) (cd : Value) (n : Int) (what : Str) : execBK brO (xI O) (xE L cd) none 30 o [("n", .int n), ("what", .str what)] ((fbody (stAt 4)).drop 1) (fun o _ fl => some (o, fl)) =
  bif decide (n > 1099511627776) then none else bif decide (n < -1099511627776) then none else some (o, .ret (.int n)) := by kernel_rfl
noncomputable abbrev xC1 : Expr := Expr.Compare (Expr.Call (Expr.Name "type" ⟨12, 7, 12, 11⟩) [Expr.Name "n" ⟨12, 12, 12, 13⟩] [] ⟨12, 7, 12, 14⟩) [CmpOp.IsNot] [Expr.Name "int" ⟨12, 22, 12, 25⟩] ⟨12, 7, 12, 25⟩
noncomputable abbrev xC2 : Expr := Expr.Compare (Expr.Call (Expr.Name "type" ⟨12, 30, 12, 34⟩) [Expr.Name "n" ⟨12, 35, 12, 36⟩] [] ⟨12, 30, 12, 37⟩) [CmpOp.IsNot] [Expr.Name "bool" ⟨12, 45, 12, 49⟩] ⟨12, 30, 12, 49⟩
theorem index_first : hdS (fbody (stAt 4)) 0 = Stmt.If (Expr.BoolOp BoolOp.And [xC1, xC2] ⟨12, 7, 12, 49⟩) [Stmt.Expr (Expr.Call (Expr.Name "_wall" ⟨13, 8, 13, 13⟩) [Expr.Constant (Const.int 1) 0 ⟨13, 14, 13, 15⟩] [] ⟨13, 8, 13, 16⟩) ⟨13, 8, 13, 16⟩] [] ⟨12, 4, 13, 16⟩ := by kernel_rfl
theorem index_test {O : Type} {C : Cx O} {A₀ : Around} {base : Heap} {outer : List Env} {A : Around} {L : Addr} {cd : Value} {d : Nat} {o : O} {n : Int} {what : Str} (R : Rim (K02 P) p loose mean mg mb A₀ base outer A (xE L cd) C.h₀ C.L d) (hn : (xE L cd).kindOf "n" = some .local) :
    TrOk prog w A C o (xE L cd) [("n", .int n), ("what", .str what)] xC1 false := by
  intro fz s Q E h hq
  refine wpAny_isTrue_Compare1 (Call_Name rfl (blt_name R h (v := .type "type") (by kernel_rfl) (by kernel_rfl) (by decide) (by kernel_rfl) (by decide) ?_)) rfl
  refine PyProof.Rows.callWith_type1 (args_cons ?_ rfl) rfl rfl
  obtain ⟨h', tk, m, Rl, rfl, F, N, rp, ap, lc, rf⟩ := id h
  obtain ⟨v', e1, e2⟩ := lc "n" (.int n) rfl
  cases e2 with
  | int _ t =>
    refine wpAny_Name (wpAny_loadName_local R.hk hn (by rw [R.hl]; exact F.ns) e1 (args_nil ?_)) (by decide)
    refine call_type_of (typeIs_int _ _ _) (by decide) ?_
    refine blt_name R h (v := .type "int") (by kernel_rfl) (by kernel_rfl) (by decide) (by kernel_rfl) (by decide) ?_
    show wpAny _ _ (do return Value.bool (!(← isSame (.type "int") (.type "int")))) _ _ _
    have e : isSame (.type "int") (.type "int") = pure true := by kernel_rfl
    rw [e]
    exact wpAny_bind (wpAny_pure (wpAny_pure (wpAny_truthy_bool (hq fz _ (fun _ h => h) h))))
theorem index_pure (d : Nat) : PureC prog w (K02 P) p loose mean mg mb "_index" (d + 1) indexSp := by
  refine pure_fnR (f := 53) (name := "_index") (dV := .none) (kV := .none) (doc := .none) (pm := .str "io" 286) (an := none) (ct := .none) (oc := .type "function") (od := none) (osl := #[]) (qual := "_index") (scope := fscope (stAt 4)) (params := fpar (stAt 4)) (body := fbody (stAt 4)) (cdv := .ref 52) (xs := ["n", "what"]) (by kernel_rfl) (by decide) (by kernel_rfl) (by kernel_rfl)
    (fun vs s hl => ?_) (by decide +kernel) (by decide +kernel) (by kernel_rfl) (by kernel_rfl) (by kernel_rfl) (by decide +kernel) (fun ds r h => ?_) (fun {O C A₀ base outer A L} o ds r h hrefs R hL => ?_)
  · obtain ⟨a, b, rfl⟩ := len2 hl
    exact BindsTo.of_eq (by kernel_rfl)
  · obtain ⟨q, h1, _⟩ := opt_of h
    rw [aIS_is h1]; rfl
  · obtain ⟨⟨n, what⟩, h0, h⟩ := opt_of h
    · obtain ⟨h1, e0⟩ := Prod.mk.inj (sj h)
      rw [aIS_is h0, ← e0]
      simp only [Bool.and_eq_true, decide_eq_true_eq] at h1
      have hb : fbody (stAt 4) = hdS (fbody (stAt 4)) 0 :: (fbody (stAt 4)).drop 1 := by kernel_rfl
      have hn : ∀ x ∈ locs (fscope (stAt 4)), (xE L (.ref 52)).kindOf x = some .local := by
        have : ∀ x ∈ locs (fscope (stAt 4)), (xE 0 (.ref 52)).kindOf x = some .local := by decide +kernel
        exact this
      have IK := pureI_ok (prog := prog) (w := w) (C := C) (X := fun _ _ _ _ => False) (names := locs (fscope (stAt 4))) (callT := [("int", intV)]) R hn (fun _ hq => by rw [hrefs] at hq; cases hq) (fun y hy => by
        cases hy with
        | head => exact ⟨int_pure _, by kernel_rfl⟩
        | tail _ h => cases h)
      have h2 := index_rest O o L (.ref 52) n what
      rw [decide_eq_false (show ¬ n > 1099511627776 by lia), decide_eq_false (show ¬ n < -1099511627776 by lia)] at h2
      simp only [cond_false] at h2
      obtain ⟨⟨o₂, ρ'', fl⟩, hB, e⟩ := (execK_ok IK 30).2 _ _ _ _ h2
      obtain ⟨rfl, rfl⟩ : o₂ = o ∧ fl = .ret (.int n) := by simpa using e
      refine ⟨ρ'', ?_⟩
      rw [hb]
      refine bl_next ?_ hB
      rw [index_first]
      exact st_if (c := false) (tr_and (index_test R (by kernel_rfl)) rfl) bl_nil
end
section
open PySem PySem.Calls PyProof.Rows PySem.W PySem.Builtin PySem.Builtin.Str
noncomputable def ioT : List (Str × (List V → Option (Bool × V))) := [("_index", indexSp), ("len", lenV)]
noncomputable def ioTL : List (Str × (List V → Option (Bool × V))) := [("len", lenV)]
noncomputable def find4 (x y : Str) (i j : Int) : Int := match PySem.Builtin.Str.occurrences x y (fromIndex x.length i) (min (fromIndex x.length j) x.length) 1 with
  | k :: _ => (k : Int)
  | [] => -1
noncomputable def vDo (st : Stmt) : Option (Str × Pos × Str × Pos × List Expr × Pos × Pos) := opt (vExpr st) (fun s => opt (vCall s.1) (fun c => opt (vAttr c.1) (fun t => opt (nameOf1 t.1) (fun x => some (x, nmPos t.1, t.2.1, t.2.2, c.2.1, c.2.2, s.2)) none) none) none) none
theorem vDo_is {st : Stmt} {q : Str × Pos × Str × Pos × List Expr × Pos × Pos} (h : vDo st = some q) : st = .Expr (.Call (.Attribute (.Name q.1 q.2.1) q.2.2.1 q.2.2.2.1) q.2.2.2.2.1 [] q.2.2.2.2.2.1) q.2.2.2.2.2.2 := by
  obtain ⟨⟨e, p⟩, h0, h⟩ := opt_of h
  obtain ⟨⟨g, args, p'⟩, h1, h⟩ := opt_of h
  obtain ⟨⟨g2, m, pm⟩, h2, h⟩ := opt_of h
  obtain ⟨x, h4, h⟩ := opt_of h
  obtain rfl := sj h
  have e1 := vCall_is h1
  have e2 := vAttr_is h2
  have e4 := nameOf1_at h4
  dsimp only at e1 e2 e4 ⊢
  rw [vExpr_is h0, e1, e2, ← e4]
noncomputable def vLet : Stmt → Option (Expr × Expr × Pos)
  | .Assign ts e p => opt (one ts) (fun y => some (y, e, p)) none
  | _ => none
theorem vLet_is {st : Stmt} {x : Expr × Expr × Pos} (h : vLet st = some x) : st = .Assign [x.1] x.2.1 x.2.2 := by
  cases st with
  | Assign ts e p =>
    obtain ⟨y, h1, h⟩ := opt_of h
    obtain rfl := sj h
    exact congrArg (Stmt.Assign · e p) (one_is h1)
  | _ => exact nn h
noncomputable def vGet (st : Stmt) : Option (Str × Pos × Str × Pos × Str × Pos × Str × Pos × List Expr × Pos × Pos) := opt (vLet st) (fun s => opt (nameOf1 s.1) (fun yn => opt (vCall s.2.1) (fun c => opt (vAttr c.1) (fun u => opt (vAttr u.1) (fun t => opt (nameOf1 t.1) (fun x => some (yn, nmPos s.1, x, nmPos t.1, t.2.1, t.2.2, u.2.1, u.2.2, c.2.1, c.2.2, s.2.2)) none) none) none) none) none) none
theorem vGet_is {st : Stmt} {q : Str × Pos × Str × Pos × Str × Pos × Str × Pos × List Expr × Pos × Pos} (h : vGet st = some q) :
    st = .Assign [.Name q.1 q.2.1] (.Call (.Attribute (.Attribute (.Name q.2.2.1 q.2.2.2.1) q.2.2.2.2.1 q.2.2.2.2.2.1) q.2.2.2.2.2.2.1 q.2.2.2.2.2.2.2.1) q.2.2.2.2.2.2.2.2.1 [] q.2.2.2.2.2.2.2.2.2.1) q.2.2.2.2.2.2.2.2.2.2 := by
  obtain ⟨⟨y, e, p⟩, h0, h⟩ := opt_of h
  obtain ⟨yn, h5, h⟩ := opt_of h
  obtain ⟨⟨g, args, p'⟩, h1, h⟩ := opt_of h
  obtain ⟨⟨g2, m, pm⟩, h2, h⟩ := opt_of h
  obtain ⟨⟨g3, a, pa⟩, h3, h⟩ := opt_of h
  obtain ⟨x, h4, h⟩ := opt_of h
  obtain rfl := sj h
  have e1 := vCall_is h1
  have e2 := vAttr_is h2
  have e3 := vAttr_is h3
  have e4 := nameOf1_at h4
  have e5 := nameOf1_at h5
  dsimp only at e1 e2 e3 e4 e5 ⊢
  rw [vLet_is h0, e1, e2, e3, ← e4, ← e5]
noncomputable def nm3 (l : List Expr) : Option (Str × Str × Str) := opt (three l) (fun q => opt (nameOf1 q.1) (fun a => opt (nameOf1 q.2.1) (fun b => opt (nameOf1 q.2.2) (fun c => some (a, b, c)) none) none) none) none
theorem nm3_is {l : List Expr} {q : Str × Str × Str} (h : nm3 l = some q) : ∃ p1 p2 p3, l = [.Name q.1 p1, .Name q.2.1 p2, .Name q.2.2 p3] := by
  obtain ⟨⟨x, y, z⟩, h1, h⟩ := opt_of h
  obtain ⟨a, h2, h⟩ := opt_of h
  obtain ⟨b, h3, h⟩ := opt_of h
  obtain ⟨c, h4, h⟩ := opt_of h
  obtain ⟨p1, e1⟩ := nameOf1_is h2
  obtain ⟨p2, e2⟩ := nameOf1_is h3
  obtain ⟨p3, e3⟩ := nameOf1_is h4
  dsimp only at e1 e2 e3
  exact ⟨p1, p2, p3, by rw [three_is h1, ← sj h, e1, e2, e3]⟩
noncomputable def ioArgs (ρ : Loc) (u : Str × Str × Str) : Option (Str × Int × Int) := opt (ρ.lookup u.1) (fun d1 => opt (strOf d1) (fun e => opt (ρ.lookup u.2.1) (fun d2 => opt (intOf d2) (fun i => opt (ρ.lookup u.2.2) (fun d3 => opt (intOf d3) (fun j => some (e, i, j)) none) none) none) none) none) none
theorem ioArgs_is {ρ : Loc} {u : Str × Str × Str} {a : Str × Int × Int} (h : ioArgs ρ u = some a) : ρ.lookup u.1 = some (.str a.1) ∧ ρ.lookup u.2.1 = some (.int a.2.1) ∧ ρ.lookup u.2.2 = some (.int a.2.2) := by
  obtain ⟨d1, k1, h⟩ := opt_of h
  obtain ⟨s1, l1, h⟩ := opt_of h
  obtain ⟨d2, k2, h⟩ := opt_of h
  obtain ⟨s2, l2, h⟩ := opt_of h
  obtain ⟨d3, k3, h⟩ := opt_of h
  obtain ⟨s3, l3, h⟩ := opt_of h
  rw [strOf_is l1] at k1
  rw [intOf_is l2] at k2
  rw [intOf_is l3] at k3
  rw [← sj h]
  exact ⟨k1, k2, k3⟩
noncomputable abbrev ioG (names : List Str) (y x b m : Str) (l1 l2 : Bool) (u : Str × Str × Str) : Bool := (m == "find" && b == "_StringIO__buf" && x == "self" && l1) && (names.contains y && names.contains u.1 && names.contains u.2.1 && names.contains u.2.2) && ((u.1 != "__debug__") && (u.2.1 != "__debug__") && (u.2.2 != "__debug__")) && l2
noncomputable def ioFind (P : LP) (names : List Str) (o : LO) (ρ : Loc) (st : Stmt) : Option (LO × Loc × Fl) := opt (vGet st) (fun q => opt (nm3 q.2.2.2.2.2.2.2.2.1) (fun u => gate (ioG names q.1 q.2.2.1 q.2.2.2.2.1 q.2.2.2.2.2.2.1 (q.2.2.2.2.2.2.2.1.endLine == q.2.2.2.2.2.2.2.2.2.1.line) true u)
  (opt (ioArgs ρ u) (fun a => some (o, (q.1, .int (find4 (S P.T) a.1 a.2.1 a.2.2)) :: ρ, .next)) none) none) none) none
noncomputable def ioCheck (o : LO) (ρ : Loc) (st : Stmt) : Option (LO × Loc × Fl) := opt (vDo st) (fun q => gate (q.2.2.1 == "_StringIO__check" && q.1 == "self" && q.2.2.2.1.endLine == q.2.2.2.2.2.1.line && q.2.2.2.2.1.isEmpty) (some (o, ρ, .next)) none) none
noncomputable def ioPrim (P : LP) (names : List Str) (o : LO) (ρ : Loc) (st : Stmt) : Option (LO × Loc × Fl) := opt (ioCheck o ρ st) some (ioFind P names o ρ st)
noncomputable def ioI (P : LP) (names : List Str) (T : List (Str × (List V → Option (Bool × V))) := ioT) : Ifc LO :=
  { names := names, self := "self", attr := fun o a => match (ioFields P o).lookup a with | some (.v d) => some d | _ => none,
    setA := fun o a v => match a == "_StringIO__pos" with | true => some { o with pos := v } | false => none,
    callF := fun _ f ds => (T.lookup f).bind fun g => g ds,
    prim := ioPrim P names }
noncomputable abbrev ioN (i : Nat) : List Str := (locs (fscope (meth 10 i))).filter fun x : Str => !(x == ("self" : Str))
theorem gives_find4 (x y : Str) (i j : Int) (t u v v' : Tok) : Gives (PySem.Builtin.«str.find» ⟨[.str x t, .str y u, .int i v, .int j v'], []⟩) (.int (find4 x y i j)) := by
  unfold find4
  show Gives (match PySem.Builtin.Str.occurrences x y (fromIndex x.length i) (min (fromIndex x.length j) x.length) 1 with | k :: _ => retInt k | [] => (do rule "str.find.not-found"; retInt (-1))) _
  cases PySem.Builtin.Str.occurrences x y (fromIndex x.length i) (min (fromIndex x.length j) x.length) 1 with
  | nil => exact .rule (.of_eq rfl)
  | cons k _ => exact .of_eq rfl
theorem call_find4 {prog : Program} {w : World} {A : Around} {E : Value → Shared → Prop} {s : Shared} {x y : Str} {t u v v' : Tok} {i j : Int} {Q : Value → Shared → Prop} (hq : Q (.int (find4 x y i j) s.toks) { s with toks := s.toks + 1 }) :
    wpAny (model prog w) A (call (.builtin "str.find") [.str x t, .str y u, .int i v, .int j v']) Q E s :=
  call_gives F.slot_str_find (typeIs_str _ _ _) F.entry_str_find (F.args_str_find_4 _ _ _ _) (gives_find4 x y i j t u v v') hq
theorem find4_S {T : List Nat} {c k : Nat} (h : k ≤ T.length) : find4 (S T) (S [c]) (k : Int) (T.length : Int) = firstAt c (T.drop k) k := by
  rw [← find3_S h]
  unfold find4 Txt.find3
  have : min (fromIndex (S T).length (T.length : Int)) (S T).length = (S T).length := by
    unfold fromIndex; rw [len_S]; lia
  rw [this]; rfl
section
variable {env : Env}
theorem meth_eqA {v : Expr} {f name : Str} {args : List Expr} {p p' pa : Pos} (hs : args.all notStar = true) (hk : args.length ≤ 4) (hl : (p'.endLine == p.line) = true) :
    eval (.Call (.Attribute (.Attribute v f pa) name p') args [] p) env = (do
      let ov ← eval (.Attribute v f pa) env
      standAt p'.atName
      let (g, first) ← holding [ov] (getMethod ov name (do return (← importBound (.Attribute v f pa) env).getD true))
      callWith p g first (backTo p (starEach args env)) []) := by
  have h1 : eval (.Call (.Attribute (.Attribute v f pa) name p') args [] p) env = (do
      let ov ← eval (.Attribute v f pa) env
      standAt p'.atName
      methodCall (.Attribute v f pa) name p' p env ov (args.length + 0) (backTo p (starEach args env)) []) := rfl
  have hf : methodCallForm (args.length + 0) (backTo p (starEach args env)) [] = true := by
    unfold methodCallForm
    have := plain_off (env := env) p hs
    simp only [List.any_eq_false] at this
    simp only [Nat.add_zero, List.isEmpty_nil, if_true, Bool.and_eq_true, List.all_eq_true, decide_eq_true_eq, List.all_nil, and_true]
    exact ⟨fun x hx => by simpa using this x hx, by lia⟩
  rw [h1]
  unfold methodCall calleeOf methodCallPos
  rw [hf, hl]
  simp only [if_true, Bool.not_true, Bool.false_or]
  rfl
end
end
theorem check_1 (Pm : Params) : findIn (K02 Pm) (.ref 587) "_StringIO__check" = some (some (.ref 371)) := by kernel_rfl
theorem check_2 (Pm : Params) : isFn (K02 Pm) (.ref 371) = true := by kernel_rfl
theorem line_1 (Pm : Params) : findIn (K02 Pm) (.ref 587) "_StringIO__line" = some (some (.ref 385)) := by kernel_rfl
theorem readline_1 (Pm : Params) : findIn (K02 Pm) (.ref 587) "readline" = some (some (.ref 541)) := by kernel_rfl
theorem check_run (P : LP) (o : LO) (L : Addr) (cd : Value) (ρ : Loc) : execBK brO (ioI P []) (envOf "StringIO.__check" (fscope (meth 10 3)) L 371 cd) none 20 o ρ (fbody (meth 10 3)) (fun o _ fl => some (o, fl)) = some (o, .next) := by kernel_rfl
section
variable {prog : Program} {w : World} {K : Frag} {p : Program} {loose : List Str} {mean : ExcName → Option Value} {mg mb : Str → Option Value} {A₀ : Around} {base : Heap} {outer : List Env} {A : Around} {env : Env} {O : Type}
theorem call_meth0 {C : Cx O} {d : Nat} (R : Rim K p loose mean mg mb A₀ base outer A env C.h₀ C.L d) {o : O} {ρ : Loc} {fz : Led} {s : Shared} (h : At C o ρ fz s) {cls x dx f : Addr} {fs : List (Str × FV)} {m sn : Str} {p1 p2 pos : Pos} {fo : Obj} {fd : FuncData} {Q E : Value → Shared → Prop}
    (hi : ∀ R, C.Rep o fz R → ∃ es n, (x, instObj cls dx) ∈ R ∧ (dx, dictOf es n) ∈ R ∧ FsOk fz fs es) (hs : (sn, Value.ref x) ∈ C.refs) (hk : env.kindOf sn = some .local) (hd : (sn == ("__debug__" : Str)) = false) (hl : (p2.endLine == pos.line) = true)
    (hf : fs.lookup m = none) (hg : plainGet K cls m = true) (ha : findIn K (.ref cls) m = some (some (.ref f))) (ht : isFn K (.ref f) = true) (ho : K.lookup f = some fo) (hfd : fo.data = .func fd)
    (hc : wpAny (model prog w) A (call (.ref f) [.ref x]) Q E s) : wpAny (model prog w) A (eval (.Call (.Attribute (.Name sn p1) m p2) [] [] pos) env) Q E s := by
  obtain ⟨hp, tk, mm, Rl, rfl, F, N, rp, ap, lc, rf⟩ := id h
  obtain ⟨es, n, h1, h2, h3⟩ := hi Rl rp
  have I : InstAt hp x (instObj cls dx) cls (some (dictOf es n)) := ⟨(N _ (List.mem_append_left _ h1)).1, rfl, rfl, (N _ (List.mem_append_left _ h2)).1⟩
  refine MethodCall_ (pl := _) ?_ (meth_eq (v := .Name sn p1) rfl rfl (by simp) hl)
  refine wpAny_Name (wpAny_loadName_local R.hk hk (by rw [R.hl]; exact F.ns) (rf _ hs) ?_) hd
  refine method_inst (s := { C.s₀ with heap := hp, toks := tk }) F R.X I hg ha ht (fs_none h3 hf) ?_
  exact callWith_function (first := [.ref x]) (PySem.evalArgs_none ⟨⟨F.keep _ _ (R.X _ _ ho), hfd⟩, hc⟩)
end
section
set_option tactic.hygienic true
theorem io_find (Pm : Params) {P : LP} {o : LO} {a : Str} {f : FV} (h : (ioFields P o).lookup a = some f) : findIn (K02 Pm) (.ref 587) a = some none := by
  have hm : a ∈ (["_StringIO__newline", "_StringIO__buf", "_StringIO__pos"] : List Str) := by
    obtain ⟨l1, l2, he, _⟩ := List.lookup_eq_some_iff.mp h
    have e : (ioFields P o).map (·.1) = (["_StringIO__newline", "_StringIO__buf", "_StringIO__pos"] : List Str) := rfl
    rw [← e, he]; simp
  exact eq_of_beq (List.all_eq_true.mp (io_get3 Pm) a hm)
section
variable {prog : Program} {w : World} {Pm : Params} {p : Program} {loose : List Str} {mean : ExcName → Option Value} {mg mb : Str → Option Value} {A₀ : Around} {base : Heap} {outer : List Env} {A : Around} {env : Env}
noncomputable def iofI (P : LP) : Ifc LO := { names := [], self := "self", attr := fun o a => match (ioFields P o).lookup a with | some (.v d) => some d | _ => none, setA := fun _ _ _ => none, callF := fun _ _ _ => none, prim := fun _ _ _ => none }
theorem iof_ok {C : Cx LO} {P : LP} (hC : C.Rep = lexRep P) {d : Nat} (R : Rim (K02 Pm) p loose mean mg mb A₀ base outer A env C.h₀ C.L d) (hself : C.refs = [((ofString "self"), Value.ref P.io)]) (hk : env.kindOf "self" = some .local) {X : Nat → Led → Shared → (Value → Shared → Prop) → Prop} : IfcOk prog w A C env (iofI P) X P.io where
  orc o := {
    fn := R.hk
    loc := R.hl
    names := fun x hx => by cases hx
    attr := fun a v h ρ p1 p2 fz s Q E hA hq => by
      have hx : (match (ioFields P o).lookup a with | some (.v d) => some d | _ => none) = some v := h
      split at hx
      case h_2 => cases hx
      case h_1 d' hl =>
        cases hx
        refine Attribute_name ?_
        obtain ⟨h', tk, m, Rl, rfl, F, N, rp, ap, lc, rf⟩ := id hA
        refine wpAny_Name (wpAny_loadName_local R.hk hk (by rw [R.hl]; exact F.ns) (rf _ (by rw [hself]; exact .head _)) ?_) (by decide : ((ofString "self") == ("__debug__" : Str)) = false)
        exact get_field R hA (fun Rl hr => io_here (hC ▸ hr)) hl (io_get1 Pm) (io_get2 Pm) (io_find Pm hl) fun v' s' h' x => hq fz s' v' (fun _ h => h) h' x
    call := fun f ds d h => by cases h }
  hh := R.hh
  inter := R.hi
  push := fun o x d o' h => by cases h
  give := fun o x o' d h => by cases h
  off := fun q hq => rfl
  self := .inl (by rw [hself]; exact .head _)
  selfK := .inl ⟨hk, (by decide : ((ofString "self") == ("__debug__" : Str)) = false)⟩
  get := fun o a v h ρ fz s Q E hA hq => by
    have hx : (match (ioFields P o).lookup a with | some (.v d) => some d | _ => none) = some v := h
    split at hx
    case h_2 => cases hx
    case h_1 d' hl =>
      cases hx
      exact get_field R hA (fun Rl hr => io_here (hC ▸ hr)) hl (io_get1 Pm) (io_get2 Pm) (io_find Pm hl) fun v' s' h' x => hq fz s' v' (fun _ h => h) h' x
  set := fun o a d o' h => by cases h
  prim := fun o ρ st r h => by cases h
theorem chk_run (P : LP) (o : LO) (L : Addr) (cd : Value) (ρ : Loc) : execBK brO (iofI P) (envOf "StringIO.__check" (fscope (meth 10 3)) L 371 cd) none 20 o ρ (fbody (meth 10 3)) (fun o _ fl => some (o, fl)) = some (o, .next) := by kernel_rfl
theorem check_st {C : Cx LO} {P : LP} (hC : C.Rep = lexRep P) {d : Nat} (R : Rim (K02 Pm) p loose mean mg mb A₀ base outer A env C.h₀ C.L (d + 1)) (hself : ((ofString "self"), Value.ref P.io) ∈ C.refs) (hk : env.kindOf "self" = some .local) {o : LO} {ρ : Loc} {p1 p2 p3 p4 : Pos} (hl : (p2.endLine == p3.line) = true) {X : Nat → Led → Shared → (Value → Shared → Prop) → Prop} :
    StOk prog w A C env X o ρ (.Expr (.Call (.Attribute (.Name (ofString "self") p1) (ofString "_StringIO__check") p2) [] [] p3) p4) (o, ρ, .next) := by
  intro fz s Q E h hq
  refine wpAny_Expr (call_meth0 R h (fun Rl hr => io_here (hC ▸ hr)) hself hk (by decide) hl (by rfl) (io_get1 Pm) (check_1 Pm) (check_2 Pm) (fo := ⟨.type "function", none, .func (fnOf "__check" "StringIO.__check" (fpar (meth 10 3)) (fbody (meth 10 3)) (fscope (meth 10 3)) .none .none .none (.str "io" 286) none (.ref 370) .none), #[]⟩) (by kernel_rfl) rfl (wpAny_call ?_)) R.hi rfl
  refine call_enter (Post := fun o' dd => o' = o ∧ dd = .none) R h (name := "__check") (qual := "StringIO.__check") (params := fpar (meth 10 3)) (body := fbody (meth 10 3)) (scope := fscope (meth 10 3)) (dV := .none) (kV := .none) (doc := .none) (pm := .str "io" 286) (cdv := .ref 370) (ct := .none) (oc := .type "function") (an := none) (od := none) (osl := #[]) (f := 371) (binds := [("self", .ref P.io)])
    (by kernel_rfl) (by kernel_rfl) (BindsTo.of_eq (by kernel_rfl)) (by intro y hy; simp only [List.mem_singleton] at hy; subst hy; kernel_rfl) (by kernel_rfl) (by kernel_rfl) (by kernel_rfl) (by decide +kernel) (ρ' := []) (refs' := [("self", .ref P.io)]) (fun _ _ hx => by cases hx) (fun q hq => by simp only [List.mem_singleton] at hq; subst hq; rfl)
    (fun g L' s' R' h' => ?_) fun fz' s' o' dd v e sb hA hv => ?_
  · have IK := iof_ok (prog := prog) (w := w) (C := calleeCx C g L' [((ofString "self"), Value.ref P.io)]) (P := P) (X := fun _ _ _ _ => False) hC R' rfl (by kernel_rfl)
    obtain ⟨⟨o₂, ρ'', fl⟩, hb, e⟩ := (execK_ok IK 20).2 _ _ _ _ (chk_run P o L' (.ref 370) [])
    obtain ⟨rfl, rfl⟩ : o₂ = o ∧ fl = .next := by simpa using e
    exact hb fz s' _ _ h' fun fz₂ s₂ s2 h2 => ⟨fz₂, _, ρ'', .none, s2, h2, .none, rfl, rfl⟩
  · obtain ⟨rfl, rfl⟩ := e
    cases hv
    exact hq fz' s' sb hA
end
end
section
variable {prog : Program} {w : World} {Pm : Params} {p : Program} {loose : List Str} {mean : ExcName → Option Value} {mg mb : Str → Option Value} {A₀ : Around} {base : Heap} {outer : List Env} {A : Around} {env : Env}
theorem io_set {C : Cx LO} {P : LP} (hC : C.Rep = lexRep P) {d : Nat} (R : Rim (K02 Pm) p loose mean mg mb A₀ base outer A env C.h₀ C.L d) {o : LO} {ρ : Loc} {fz : Led} {s : Shared} {dv : V} {v : Value} {Q : Unit → Shared → Prop} {E : Value → Shared → Prop} (h : At C o ρ fz s) (hv : VR fz dv v)
    (hq : ∀ s', At C { o with pos := dv } ρ fz s' → Q () s') : wpAny (model prog w) A (setAttr (.ref P.io) "_StringIO__pos" v) Q E s :=
  set_field (o' := { o with pos := dv }) R h (fun Rl hr => by
    obtain ⟨es, n, pre, post, e, h1, h2, h3, h4, h5⟩ := io_turn (o' := { o with pos := dv }) (name := "_StringIO__pos") (dv := dv) (P := P) (o := o) rfl rfl rfl (hC ▸ hr)
    exact ⟨es, n, pre, post, e, h1, h2, h3, h4, fun es' n' h' => hC ▸ h5 es' n' h'⟩) (Nat.le_trans (show (putF "_StringIO__pos" (.v dv) (ioFields P o)).length ≤ 3 from Nat.le_refl _) (by decide)) (io_set1 Pm) (io_set2 Pm) (io_set3 Pm) (io_get2 Pm) hv hq
theorem lex_set {C : Cx LO} {P : LP} (hC : C.Rep = lexRep P) {d : Nat} (R : Rim (K02 Pm) p loose mean mg mb A₀ base outer A env C.h₀ C.L d) {o : LO} {ρ : Loc} {fz : Led} {s : Shared} {dv : V} {v : Value} {Q : Unit → Shared → Prop} {E : Value → Shared → Prop} (h : At C o ρ fz s) (hv : VR fz dv v)
    (hq : ∀ s', At C { o with state := dv } ρ fz s' → Q () s') : wpAny (model prog w) A (setAttr (.ref P.lx) "state" v) Q E s :=
  set_field (o' := { o with state := dv }) R h (fun Rl hr => by
    obtain ⟨es, n, pre, post, e, h1, h2, h3, h4, h5⟩ := lex_turn (o' := { o with state := dv }) (name := "state") (dv := dv) (P := P) (o := o) rfl rfl rfl (hC ▸ hr)
    exact ⟨es, n, pre, post, e, h1, h2, h3, h4, fun es' n' h' => hC ▸ h5 es' n' h'⟩) (Nat.le_trans (show (putF "state" (.v dv) (lexFields P o)).length ≤ 20 from Nat.le_refl _) (by decide)) (lex_set1 Pm) (lex_set2 Pm) (lex_set3 Pm) (lex_get2 Pm) hv hq
noncomputable def ioI0 (P : LP) (names : List Str) (T : List (Str × (List V → Option (Bool × V)))) : Ifc LO := { ioI P names T with prim := fun _ _ _ => none }
theorem io_ok0 {C : Cx LO} {P : LP} {names : List Str} {T : List (Str × (List V → Option (Bool × V)))} (hC : C.Rep = lexRep P) {d : Nat} (R : Rim (K02 Pm) p loose mean mg mb A₀ base outer A env C.h₀ C.L (d + 1)) (hself : C.refs = [((ofString "self"), Value.ref P.io)]) (hk : env.kindOf "self" = some .local) (hn : ∀ x ∈ names, env.kindOf x = some .local) (hoff : names.contains (ofString "self") = false)
    (hc : ∀ y ∈ T, PureC prog w (K02 Pm) p loose mean mg mb y.1 (d + 1) y.2 ∧ env.kindOf y.1 = some .globalImplicit) {X : Nat → Led → Shared → (Value → Shared → Prop) → Prop} : IfcOk prog w A C env (ioI0 P names T) X P.io where
  orc o := {
    fn := R.hk
    loc := R.hl
    names := hn
    attr := fun a v h ρ p1 p2 => (iof_ok (prog := prog) (w := w) (X := X) hC R hself hk).orc o |>.attr a v h ρ p1 p2
    call := fun f ds r hf ρ fz s Q E q pos args h hs hne hw => by
      obtain ⟨g, hg, hr⟩ := Option.bind_eq_some_iff.mp hf
      have hm : (f, g) ∈ T := lookup_mem hg
      exact (hc _ hm).1 R h (hc _ hm).2 args pos q ds r hr hs hne Q E hw }
  hh := R.hh
  inter := R.hi
  push := fun o x d o' h => by cases h
  give := fun o x o' d h => by cases h
  off := fun q hq => by rw [hself] at hq; simp only [List.mem_singleton] at hq; subst hq; exact hoff
  self := .inl (by rw [hself]; exact .head _)
  selfK := .inl ⟨hk, (by decide : ((ofString "self") == ("__debug__" : Str)) = false)⟩
  get := (iof_ok (prog := prog) (w := w) (X := X) hC R hself hk).get
  set := fun o a dv o' h ρ fz s v Q E hA hv hq => by
    have h' : (match a == "_StringIO__pos" with | true => some { o with pos := dv } | false => none) = some o' := h
    split at h'
    case h_2 => cases h'
    case h_1 e => cases h'; cases eq_of_beq e; exact io_set hC R hA hv hq
  prim := fun o ρ st r h => by cases h
theorem io_find_st {C : Cx LO} {P : LP} {names : List Str} {T : List (Str × (List V → Option (Bool × V)))} {X : Nat → Led → Shared → (Value → Shared → Prop) → Prop} (K : IfcOk prog w A C env (ioI0 P names T) X P.io) {o : LO} {ρ : Loc} {y a1 a2 a3 : Str} {q1 q2 q3 q4 q5 q6 q7 q8 q9 : Pos} {e : Str} {i j : Int}
    (hy : names.contains y = true) (h1 : names.contains a1 = true) (h2 : names.contains a2 = true) (h3 : names.contains a3 = true) (d1 : (a1 != "__debug__") = true) (d2 : (a2 != "__debug__") = true) (d3 : (a3 != "__debug__") = true) (hl : (q4.endLine == q8.line) = true)
    (e1 : ρ.lookup a1 = some (.str e)) (e2 : ρ.lookup a2 = some (.int i)) (e3 : ρ.lookup a3 = some (.int j)) :
    StOk prog w A C env X o ρ (.Assign [.Name y q1] (.Call (.Attribute (.Attribute (.Name (ofString "self") q2) (ofString "_StringIO__buf") q3) (ofString "find") q4) [.Name a1 q5, .Name a2 q6, .Name a3 q7] [] q8) q9) (o, (y, .int (find4 (S P.T) e i j)) :: ρ, .next) := by
  intro fz s Q E h hq
  refine wpAny_Assign_Name (MethodCall_ (pl := _) (((K.orc o).attr (ofString "_StringIO__buf") (.str (S P.T)) rfl ρ q2 q3) fz s _ E h fun fz₁ s₁ v s1 hA1 x1 => ?_) (meth_eqA (by rfl) (by simp) hl)) (swap_off (by rfl))
  cases x1
  refine GM.find (callWith_more (by rfl) ((evs_cons (by rfl) (ev_name (K.orc o) h1 d1 e1) (evs_cons (by rfl) (ev_name (K.orc o) h2 d2 e2) (evs_cons (by rfl) (ev_name (K.orc o) h3 d3 e3) evs_nil))) q8 fz₁ s₁ _ E hA1 fun fz₂ s₂ vs s2 hA2 x2 => ?_))
  cases x2 with
  | cons v1 r1 => cases r1 with
    | cons v2 r2 => cases r2 with
      | cons v3 r3 =>
        cases r3; cases v1; cases v2; cases v3
        exact call_find4 (store_ok K (hA2.toks _) hy (.int _ _) fun s₃ h3 => hq fz₂ s₃ (fun p hp => s2 p (s1 p hp)) h3)
theorem io_ok {C : Cx LO} {P : LP} {names : List Str} {T : List (Str × (List V → Option (Bool × V)))} (hC : C.Rep = lexRep P) {d : Nat} (R : Rim (K02 Pm) p loose mean mg mb A₀ base outer A env C.h₀ C.L (d + 1)) (hself : C.refs = [((ofString "self"), Value.ref P.io)]) (hk : env.kindOf "self" = some .local) (hn : ∀ x ∈ names, env.kindOf x = some .local) (hoff : names.contains (ofString "self") = false)
    (hc : ∀ y ∈ T, PureC prog w (K02 Pm) p loose mean mg mb y.1 (d + 1) y.2 ∧ env.kindOf y.1 = some .globalImplicit) {X : Nat → Led → Shared → (Value → Shared → Prop) → Prop} : IfcOk prog w A C env (ioI P names T) X P.io :=
  have K := io_ok0 (prog := prog) (w := w) (X := X) hC R hself hk hn hoff hc
  { orc := fun o => { fn := (K.orc o).fn, loc := (K.orc o).loc, names := (K.orc o).names, attr := (K.orc o).attr, call := (K.orc o).call }
    hh := K.hh
    inter := K.inter
    off := K.off
    self := K.self
    selfK := K.selfK
    get := K.get
    set := K.set
    push := K.push
    give := K.give
    prim := fun o ρ st r h => by
      rcases opt_or (show opt (ioCheck o ρ st) some _ = some r from h) with ⟨q, h, e⟩ | ⟨_, h⟩
      · obtain ⟨q', h1, h⟩ := opt_of h
        obtain ⟨h2, h⟩ := gate_of h
        simp only [Bool.and_eq_true] at h2
        rw [vDo_is h1, eq_of_beq h2.1.1.1, eq_of_beq h2.1.1.2, List.isEmpty_iff.mp h2.2, ← sj e, ← sj h]
        exact check_st hC R (by rw [hself]; exact .head _) hk h2.1.2
      · obtain ⟨⟨y, q1, x, q2, b, q3, m, q4, args, q8, q9⟩, h1, h⟩ := opt_of h
        obtain ⟨⟨a1, a2, a3⟩, h3, h⟩ := opt_of h
        obtain ⟨h2, h⟩ := gate_of h
        obtain ⟨a, ha, h⟩ := opt_of h
        obtain ⟨k1, k2, k3⟩ := ioArgs_is ha
        obtain ⟨p1, p2, p3, e12⟩ := nm3_is h3
        simp only [Bool.and_eq_true] at h2
        obtain ⟨⟨⟨⟨⟨⟨e1, e2⟩, e3⟩, e11⟩, ⟨⟨e4, e5⟩, e6⟩, e7⟩, ⟨e8, e9⟩, e10⟩, _⟩ := h2
        rw [← sj h, vGet_is h1]
        dsimp only at e1 e2 e3 e12 ⊢
        rw [e12, eq_of_beq e1, eq_of_beq e2, eq_of_beq e3]
        exact io_find_st K e4 e5 e6 e7 e8 e9 e10 e11 k1 k2 k3 }
end
noncomputable abbrev ioE (i : Nat) (q : Str) (f : Addr) (L : Addr) (cd : Value) : Env := envOf q (fscope (meth 10 i)) L f cd
theorem io_read_t (P : LP) (L : Addr) (cd : Value) (state token lineno : V) (ps : Int) (pbs : List Nat) : execBK brO (ioI P (ioN 25)) (ioE 25 "StringIO.read" 533 L cd) none 80 ⟨state, token, lineno, .int ps, pbs⟩ [("size", .int 1)] (fbody (meth 10 25)) (fun o _ fl => some (o, fl)) =
  bif strOk (S P.T) then
    bif decide (ps ≥ Nat.cast (Str.length (S P.T))) then some (⟨state, token, lineno, .int ps, pbs⟩, Fl.ret (.str ""))
    else
      bif decide (ps + 1 < Nat.cast (Str.length (S P.T))) then
        bif strOk (S P.T) then
          bif strOk (Txt.slice (S P.T) (some ps) (some (ps + 1))) && true then
            bif strOk (Txt.slice (S P.T) (some ps) (some (ps + 1)) ++ ofString " ") then
              some (⟨state, token, lineno, .int (ps + 1), pbs⟩, Fl.ret (.str (Txt.slice (Txt.slice (S P.T) (some ps) (some (ps + 1)) ++ ofString " ") none (some (-1)))))
            else none
          else none
        else none
      else
        bif strOk (S P.T) then
          bif strOk (Txt.slice (S P.T) (some ps) (some (Nat.cast (Str.length (S P.T))))) && true then
            bif strOk (Txt.slice (S P.T) (some ps) (some (Nat.cast (Str.length (S P.T)))) ++ ofString " ") then
              some (⟨state, token, lineno, .int (Nat.cast (Str.length (S P.T))), pbs⟩, Fl.ret (.str (Txt.slice (Txt.slice (S P.T) (some ps) (some (Nat.cast (Str.length (S P.T)))) ++ ofString " ") none (some (-1)))))
            else none
          else none
        else none
  else none := by kernel_rfl
noncomputable abbrev lfind (P : LP) (ps : Int) : Int := find4 (S P.T) (ofString "\n") ps (Nat.cast (Str.length (S P.T)))
theorem io_line_t (P : LP) (L : Addr) (cd : Value) (state token lineno : V) (ps : Int) (pbs : List Nat) : execBK brO (ioI P (ioN 5) ioTL) (ioE 5 "StringIO.__line" 385 L cd) none 80 ⟨state, token, lineno, .int ps, pbs⟩ [("limit", .int (-1))] (fbody (meth 10 5)) (fun o _ fl => some (o, fl)) =
  bif strOk (S P.T) then
    bif decide (ps ≥ Nat.cast (Str.length (S P.T))) then some (⟨state, token, lineno, .int ps, pbs⟩, Fl.ret (.str ""))
    else
      bif decide (lfind P ps ≥ 0) then
        bif strOk (S P.T) then
          bif strOk (Txt.slice (S P.T) (some ps) (some (lfind P ps + Nat.cast (Str.length (ofString "\n"))))) && true then
            bif strOk (Txt.slice (S P.T) (some ps) (some (lfind P ps + Nat.cast (Str.length (ofString "\n")))) ++ ofString " ") then
              some (⟨state, token, lineno, .int (lfind P ps + Nat.cast (Str.length (ofString "\n"))), pbs⟩, Fl.ret (.str (Txt.slice (Txt.slice (S P.T) (some ps) (some (lfind P ps + Nat.cast (Str.length (ofString "\n")))) ++ ofString " ") none (some (-1)))))
            else none
          else none
        else none
      else
        bif strOk (S P.T) then
          bif strOk (Txt.slice (S P.T) (some ps) (some (Nat.cast (Str.length (S P.T))))) && true then
            bif strOk (Txt.slice (S P.T) (some ps) (some (Nat.cast (Str.length (S P.T)))) ++ ofString " ") then
              some (⟨state, token, lineno, .int (Nat.cast (Str.length (S P.T))), pbs⟩, Fl.ret (.str (Txt.slice (Txt.slice (S P.T) (some ps) (some (Nat.cast (Str.length (S P.T)))) ++ ofString " ") none (some (-1)))))
            else none
          else none
        else none
  else none := by kernel_rfl
theorem cut_S (a : List Nat) (c : Nat) : Txt.slice (S (a ++ [c])) none (some (-1)) = S a := by
  refine (StrLaws.sliceText_to_neg (x := S (a ++ [c])) (j := -1) (by decide) (by rw [len_S]; simp; lia)).trans ?_
  rw [len_S]
  have : (-1 + ((a ++ [c]).length : Nat) - 0 : Int).toNat = a.length := by simp; lia
  rw [this]
  simp
theorem lit32 : (ofString " ") = S [32] := by decide +kernel
noncomputable def readSt (T : List Nat) (k : Nat) : Nat × List Nat := if h : k < T.length then (k + 1, [T[k]]) else (k, [])
theorem io_read_is (P : LP) (hT : P.T.length ≤ 100) (L : Addr) (cd : Value) (state token lineno : V) (k : Nat) (pbs : List Nat) : execBK brO (ioI P (ioN 25)) (ioE 25 "StringIO.read" 533 L cd) none 80 ⟨state, token, lineno, .int (k : Int), pbs⟩ [("size", .int 1)] (fbody (meth 10 25)) (fun o _ fl => some (o, fl)) =
    some (⟨state, token, lineno, .int ((readSt P.T k).1 : Nat), pbs⟩, Fl.ret (.str (S (readSt P.T k).2))) := by
  rw [io_read_t]
  have ok : strOk (S P.T) = true := strOk_S (by lia)
  unfold readSt
  rw [ok, len_S]
  simp only [cond_true]
  by_cases h : k < P.T.length
  · have h1 : decide ((k : Int) ≥ (P.T.length : Int)) = false := decide_eq_false (by lia)
    rw [h1, dif_pos h]
    simp only [cond_false]
    have e1 : (k : Int) + 1 = ((k + 1 : Nat) : Int) := by lia
    have key : (P.T.drop k).take 1 = [P.T[k]] := by
      rw [List.drop_eq_getElem_cons h]; rfl
    by_cases h2 : k + 1 < P.T.length
    · have h3 : decide ((k : Int) + 1 < (P.T.length : Int)) = true := decide_eq_true (by lia)
      rw [h3]
      simp only [cond_true]
      have e2 : Txt.slice (S P.T) (some (k : Int)) (some ((k : Int) + 1)) = S [P.T[k]] := by
        rw [e1, mid_S (by lia) (by lia), show k + 1 - k = 1 by lia, key]
      rw [e2, lit32, app_S, strOk_S (by simp), strOk_S (by simp), cut_S]
      rfl
    · have h3 : decide ((k : Int) + 1 < (P.T.length : Int)) = false := decide_eq_false (by lia)
      rw [h3]
      simp only [cond_false]
      have e2 : Txt.slice (S P.T) (some (k : Int)) (some (P.T.length : Int)) = S [P.T[k]] := by
        rw [mid_S (by lia) (by lia), show P.T.length - k = 1 by lia, key]
      rw [e2, lit32, app_S, strOk_S (by simp), strOk_S (by simp), cut_S, show P.T.length = k + 1 by lia]
      rfl
  · have h1 : decide ((k : Int) ≥ (P.T.length : Int)) = true := decide_eq_true (by lia)
    rw [h1, dif_neg h]
    rfl
noncomputable def lineSt (T : List Nat) (k : Nat) : List Nat := (T.drop k).take (pastLine T k - k)
theorem io_line_is (P : LP) (hT : P.T.length ≤ 100) (L : Addr) (cd : Value) (state token lineno : V) (k : Nat) (hk : k ≤ P.T.length) (pbs : List Nat) : execBK brO (ioI P (ioN 5) ioTL) (ioE 5 "StringIO.__line" 385 L cd) none 80 ⟨state, token, lineno, .int (k : Int), pbs⟩ [("limit", .int (-1))] (fbody (meth 10 5)) (fun o _ fl => some (o, fl)) =
    some (⟨state, token, lineno, .int (pastLine P.T k : Nat), pbs⟩, Fl.ret (.str (S (lineSt P.T k)))) := by
  rw [io_line_t]
  have ok : strOk (S P.T) = true := strOk_S (by lia)
  unfold lfind
  rw [ok, len_S]
  simp only [cond_true]
  by_cases h : k < P.T.length
  · have h1 : decide ((k : Int) ≥ (P.T.length : Int)) = false := decide_eq_false (by lia)
    have e10 : (ofString "\n") = S [10] := by decide +kernel
    rw [h1, e10, find4_S hk]
    simp only [cond_false]
    have el : ((S [10]).length : Int) = 1 := by decide +kernel
    rw [el]
    rcases firstAt_bd 10 (P.T.drop k) k with e | ⟨j, e, hj⟩
    · have hp : pastLine P.T k = P.T.length := by unfold pastLine; rw [e]; rfl
      have h2 : decide ((firstAt 10 (P.T.drop k) k) ≥ 0) = false := by rw [e]; decide
      rw [h2]
      simp only [cond_false]
      rw [mid_S hk (Nat.le_refl _), lit32, app_S, strOk_S (by simp; lia), strOk_S (by simp; lia), cut_S]
      unfold lineSt
      rw [hp]
      rfl
    · rw [List.length_drop] at hj
      have hp : pastLine P.T k = k + j + 1 := by unfold pastLine; rw [e, if_neg (by lia)]; lia
      have h2 : decide ((firstAt 10 (P.T.drop k) k) ≥ 0) = true := by rw [e]; exact decide_eq_true (by lia)
      rw [h2]
      simp only [cond_true]
      have e3 : firstAt 10 (P.T.drop k) k + 1 = ((k + j + 1 : Nat) : Int) := by rw [e]; lia
      rw [e3, mid_S (by lia) (by lia), lit32, app_S, strOk_S (by simp; lia), strOk_S (by simp; lia), cut_S]
      unfold lineSt
      rw [hp]
      rfl
  · have h1 : decide ((k : Int) ≥ (P.T.length : Int)) = true := decide_eq_true (by lia)
    rw [h1]
    have hd : P.T.drop k = [] := List.drop_eq_nil_of_le (by lia)
    have hp : pastLine P.T k = P.T.length := by unfold pastLine; rw [hd]; rfl
    unfold lineSt
    rw [hp, hd, show (P.T.length) = k by lia]
    simp only [List.take_nil, cond_true, litnil]
noncomputable abbrev LO.at (o : LO) (k : Nat) : LO := { o with pos := .int (k : Int) }
section
variable {prog : Program} {w : World} {Pm : Params} {p : Program} {loose : List Str} {mean : ExcName → Option Value} {mg mb : Str → Option Value} {A₀ : Around} {base : Heap} {outer : List Env} {A : Around} {env : Env}
theorem ioN_25 : ∀ L cd, ∀ x ∈ ioN 25, (ioE 25 "StringIO.read" 533 L cd).kindOf x = some .local := by
  intro L cd
  have : ∀ x ∈ ioN 25, (ioE 25 "StringIO.read" 533 0 .none).kindOf x = some .local := by decide +kernel
  exact this
theorem ioN_5 : ∀ L cd, ∀ x ∈ ioN 5, (ioE 5 "StringIO.__line" 385 L cd).kindOf x = some .local := by
  intro L cd
  have : ∀ x ∈ ioN 5, (ioE 5 "StringIO.__line" 385 0 .none).kindOf x = some .local := by decide +kernel
  exact this
theorem ioN_26 : ∀ L cd, ∀ x ∈ ioN 26, (ioE 26 "StringIO.readline" 541 L cd).kindOf x = some .local := by
  intro L cd
  have : ∀ x ∈ ioN 26, (ioE 26 "StringIO.readline" 541 0 .none).kindOf x = some .local := by decide +kernel
  exact this
theorem Rim.knows {h₀ : Heap} {L : Addr} {d : Nat} {K : Frag} (R : Rim K p loose mean mg mb A₀ base outer A env h₀ L d) {h : Heap} {m : Str → Option Value} (F : Fr h₀ L h m) : K.In h := fun a o q => F.keep a o (R.X a o q)
theorem read_call {C : Cx LO} {P : LP} (hC : C.Rep = lexRep P) (hT : P.T.length ≤ 100) {d : Nat} (R : Rim (K02 Pm) p loose mean mg mb A₀ base outer A env C.h₀ C.L (d + 3)) {o : LO} {k : Nat} (hk : o.pos = .int (k : Int)) {ρ : Loc} {fz : Led} {s : Shared} {tk : Tok} {Q E : Value → Shared → Prop} (h : At C o ρ fz s)
    (hq : ∀ fz' s' v, Sub fz fz' → At C (o.at (readSt P.T k).1) ρ fz' s' → VR fz' (.str (S (readSt P.T k).2)) v → Q v s') : wpAny (model prog w) A (call (.ref 533) [.ref P.io, .int 1 tk]) Q E s := by
  obtain ⟨m₀, news₀, F₀, N₀⟩ := h.now'
  refine wpAny_call ?_
  refine call_enter (Post := fun o' dd => o' = o.at (readSt P.T k).1 ∧ dd = .str (S (readSt P.T k).2)) R h (name := "read") (qual := "StringIO.read") (params := fpar (meth 10 25)) (body := fbody (meth 10 25)) (scope := fscope (meth 10 25)) (dV := .ref 526) (kV := .none) (doc := .none) (pm := .str "io" 286) (cdv := .ref 532) (ct := .none) (oc := .type "function") (an := none) (od := none) (osl := #[]) (f := 533) (binds := [("self", .ref P.io), ("size", .int 1 tk)])
    (by kernel_rfl) (by kernel_rfl) (kp_binds (R.knows F₀) (fun S => by kernel_rfl)) (fun y hy => ?_) (by kernel_rfl) (by kernel_rfl) (by kernel_rfl) (by decide +kernel) (ρ' := [("size", .int 1)]) (refs' := [("self", .ref P.io)]) (fun x v hx => ?_) (fun q hq => by simp only [List.mem_singleton] at hq; subst hq; rfl)
    (fun g L' s' R' h' => ?_) fun fz' s' o' dd v e sb hA hv => ?_
  · simp only [List.mem_cons, List.not_mem_nil, or_false] at hy
    rcases hy with rfl | rfl
    · kernel_rfl
    · kernel_rfl
  · rw [List.lookup_cons] at hx
    split at hx
    · rename_i e; cases hx; cases eq_of_beq e; exact ⟨_, rfl, .int _ _⟩
    · cases hx
  · have IK := io_ok (prog := prog) (w := w) (C := calleeCx C g L' [((ofString "self"), Value.ref P.io)]) (P := P) (names := ioN 25) (X := fun _ _ _ _ => False) hC R' rfl (by kernel_rfl) (ioN_25 _ _) (by decide +kernel) (T := ioT) (fun y hy => by
      rcases List.mem_cons.mp hy with rfl | hy
      · exact ⟨index_pure _, by kernel_rfl⟩
      · rcases List.mem_cons.mp hy with rfl | hy
        · exact ⟨len_pure _, by kernel_rfl⟩
        · cases hy)
    have hr := io_read_is P hT L' (.ref 532) o.state o.token o.lineno k o.pbs
    rw [← hk] at hr
    obtain ⟨⟨o₂, ρ'', fl⟩, hb, e⟩ := (execK_ok IK 80).2 _ _ _ _ hr
    obtain ⟨rfl, rfl⟩ : o₂ = o.at (readSt P.T k).1 ∧ fl = .ret (.str (S (readSt P.T k).2)) := by simpa using e
    exact hb fz s' _ _ h' fun fz₂ s₂ s2 h2 v hv => ⟨fz₂, _, ρ'', _, s2, h2, hv, rfl, rfl⟩
  · obtain ⟨rfl, rfl⟩ := e
    exact hq fz' s' v sb hA hv
theorem line_call {C : Cx LO} {P : LP} (hC : C.Rep = lexRep P) (hT : P.T.length ≤ 100) {d : Nat} (R : Rim (K02 Pm) p loose mean mg mb A₀ base outer A env C.h₀ C.L (d + 3)) {o : LO} {k : Nat} (hk : o.pos = .int (k : Int)) (hle : k ≤ P.T.length) {ρ : Loc} {fz : Led} {s : Shared} {tk : Tok} {Q E : Value → Shared → Prop} (h : At C o ρ fz s)
    (hq : ∀ fz' s' v, Sub fz fz' → At C (o.at (pastLine P.T k)) ρ fz' s' → VR fz' (.str (S (lineSt P.T k))) v → Q v s') : wpAny (model prog w) A (call (.ref 385) [.ref P.io, .int (-1) tk]) Q E s := by
  refine wpAny_call ?_
  refine call_enter (Post := fun o' dd => o' = o.at (pastLine P.T k) ∧ dd = .str (S (lineSt P.T k))) R h (name := "__line") (qual := "StringIO.__line") (params := fpar (meth 10 5)) (body := fbody (meth 10 5)) (scope := fscope (meth 10 5)) (dV := .none) (kV := .none) (doc := .none) (pm := .str "io" 286) (cdv := .ref 384) (ct := .none) (oc := .type "function") (an := none) (od := none) (osl := #[]) (f := 385) (binds := [("self", .ref P.io), ("limit", .int (-1) tk)])
    (by kernel_rfl) (by kernel_rfl) (BindsTo.of_eq (by kernel_rfl)) (fun y hy => ?_) (by kernel_rfl) (by kernel_rfl) (by kernel_rfl) (by decide +kernel) (ρ' := [("limit", .int (-1))]) (refs' := [("self", .ref P.io)]) (fun x v hx => ?_) (fun q hq => by simp only [List.mem_singleton] at hq; subst hq; rfl)
    (fun g L' s' R' h' => ?_) fun fz' s' o' dd v e sb hA hv => ?_
  · simp only [List.mem_cons, List.not_mem_nil, or_false] at hy
    rcases hy with rfl | rfl
    · kernel_rfl
    · kernel_rfl
  · rw [List.lookup_cons] at hx
    split at hx
    · rename_i e; cases hx; cases eq_of_beq e; exact ⟨_, rfl, .int _ _⟩
    · cases hx
  · have IK := io_ok (prog := prog) (w := w) (C := calleeCx C g L' [((ofString "self"), Value.ref P.io)]) (P := P) (names := ioN 5) (X := fun _ _ _ _ => False) hC R' rfl (by kernel_rfl) (ioN_5 _ _) (by decide +kernel) (T := ioTL) (fun y hy => by
      rcases List.mem_cons.mp hy with rfl | hy
      · exact ⟨len_pure _, by kernel_rfl⟩
      · cases hy)
    have hr := io_line_is P hT L' (.ref 384) o.state o.token o.lineno k hle o.pbs
    rw [← hk] at hr
    obtain ⟨⟨o₂, ρ'', fl⟩, hb, e⟩ := (execK_ok IK 80).2 _ _ _ _ hr
    obtain ⟨rfl, rfl⟩ : o₂ = o.at (pastLine P.T k) ∧ fl = .ret (.str (S (lineSt P.T k))) := by simpa using e
    exact hb fz s' _ _ h' fun fz₂ s₂ s2 h2 v hv => ⟨fz₂, _, ρ'', _, s2, h2, hv, rfl, rfl⟩
  · obtain ⟨rfl, rfl⟩ := e
    exact hq fz' s' v sb hA hv
noncomputable abbrev rlS : Stmt := Stmt.Return (some (Expr.Call (Expr.Attribute (Expr.Name (ofString "self") ⟨366, 15, 366, 19⟩) (ofString "_StringIO__line") ⟨366, 15, 366, 26⟩) [Expr.Name (ofString "size") ⟨366, 27, 366, 31⟩] [] ⟨366, 15, 366, 32⟩)) ⟨366, 8, 366, 32⟩
theorem readline_body : fbody (meth 10 26) = [hdS (fbody (meth 10 26)) 0, hdS (fbody (meth 10 26)) 1, hdS (fbody (meth 10 26)) 2, rlS] := by kernel_rfl
theorem rl_0 (P : LP) (o : LO) (L : Addr) (cd : Value) : runS (ioI P (ioN 26) [("_index", indexSp)]) (ioE 26 "StringIO.readline" 541 L cd) 80 o [("size", .int (-1))] (hdS (fbody (meth 10 26)) 0) = some (o, [(ofString "size", Dat.int (-1))], Fl.next) := by kernel_rfl
theorem rl_1 (P : LP) (o : LO) (L : Addr) (cd : Value) : runS (ioI P (ioN 26) [("_index", indexSp)]) (ioE 26 "StringIO.readline" 541 L cd) 80 o [("size", .int (-1))] (hdS (fbody (meth 10 26)) 1) = some (o, [(ofString "size", Dat.int (-1)), (ofString "size", Dat.int (-1))], Fl.next) := by kernel_rfl
theorem rl_2 (P : LP) (o : LO) (L : Addr) (cd : Value) : runS (ioI P (ioN 26) [("_index", indexSp)]) (ioE 26 "StringIO.readline" 541 L cd) 80 o [("size", .int (-1)), ("size", .int (-1))] (hdS (fbody (meth 10 26)) 2) = some (o, [(ofString "size", Dat.int (-1)), (ofString "size", Dat.int (-1))], Fl.next) := by kernel_rfl
theorem meth_on {K : Frag} {O : Type} {C : Cx O} {d : Nat} (R : Rim K p loose mean mg mb A₀ base outer A env C.h₀ C.L d) {o : O} {ρ : Loc} {fz : Led} {s : Shared} (h : At C o ρ fz s) {cls x dx f : Addr} {fs : List (Str × FV)} {m : Str} {pos : Pos} {e : PySem.Expr} {rest : List PySem.Expr} {pl : Sem Bool} {Q E : Value → Shared → Prop}
    (hi : ∀ R, C.Rep o fz R → ∃ es n, (x, instObj cls dx) ∈ R ∧ (dx, dictOf es n) ∈ R ∧ FsOk fz fs es)
    (hf : fs.lookup m = none) (hg : plainGet K cls m = true) (ha : findIn K (.ref cls) m = some (some (.ref f))) (ht : isFn K (.ref f) = true) (hk : keepIn K (.ref f) = true) (hs : notStar e = true) (hs' : rest.all notStar = true)
    (hc : wpAny (model prog w) A (spliced (backTo pos (starEach (e :: rest) env))) (fun vs s₁ => (∃ fz₁ o₁ ρ₁, At C o₁ ρ₁ fz₁ s₁) ∧ wpAny (model prog w) A (call (.ref f) (.ref x :: vs)) Q E s₁) E s) :
    wpAny (model prog w) A (getMethod (.ref x) m pl) (fun r s₁ => wpAny (model prog w) A (callWith pos r.1 r.2 (backTo pos (starEach (e :: rest) env)) []) Q E s₁) E s := by
  obtain ⟨hp, tk, mm, Rl, rfl, F, N, rp, ap, lc, rf⟩ := id h
  obtain ⟨es, n, h1, h2, h3⟩ := hi Rl rp
  have I : InstAt hp x (instObj cls dx) cls (some (dictOf es n)) := ⟨(N _ (List.mem_append_left _ h1)).1, rfl, rfl, (N _ (List.mem_append_left _ h2)).1⟩
  refine method_inst (s := { C.s₀ with heap := hp, toks := tk }) F R.X I hg ha ht (fs_none h3 hf) ?_
  refine callWith_K (first := [.ref x]) R.X hk (wpAny_mono hc (fun vs s₁ y => ?_) fun _ _ y => y) (star_off hs) (plain_off pos hs')
  obtain ⟨⟨fz₁, o₁, ρ₁, y1⟩, y2⟩ := y
  obtain ⟨m₁, news₁, F₁, N₁⟩ := y1.now'
  exact ⟨R.knows F₁, y2⟩
theorem readline_call {C : Cx LO} {P : LP} (hC : C.Rep = lexRep P) (hT : P.T.length ≤ 100) {d : Nat} (R : Rim (K02 Pm) p loose mean mg mb A₀ base outer A env C.h₀ C.L (d + 4)) {o : LO} {k : Nat} (hk : o.pos = .int (k : Int)) (hle : k ≤ P.T.length) {ρ : Loc} {fz : Led} {s : Shared} {Q E : Value → Shared → Prop} (h : At C o ρ fz s)
    (hq : ∀ fz' s' v, Sub fz fz' → At C (o.at (pastLine P.T k)) ρ fz' s' → VR fz' (.str (S (lineSt P.T k))) v → Q v s') : wpAny (model prog w) A (call (.ref 541) [.ref P.io]) Q E s := by
  obtain ⟨m₀, news₀, F₀, N₀⟩ := h.now'
  refine wpAny_call ?_
  refine call_enter (Post := fun o' dd => o' = o.at (pastLine P.T k) ∧ dd = .str (S (lineSt P.T k))) R h (name := "readline") (qual := "StringIO.readline") (params := fpar (meth 10 26)) (body := fbody (meth 10 26)) (scope := fscope (meth 10 26)) (dV := .ref 534) (kV := .none) (doc := .none) (pm := .str "io" 286) (cdv := .ref 540) (ct := .none) (oc := .type "function") (an := none) (od := none) (osl := #[]) (f := 541) (binds := [("self", .ref P.io), ("size", .int (-1) 875)])
    (by kernel_rfl) (by kernel_rfl) (kp_binds (R.knows F₀) (fun S => by kernel_rfl)) (fun y hy => ?_) (by kernel_rfl) (by kernel_rfl) (by kernel_rfl) (by decide +kernel) (ρ' := [("size", .int (-1))]) (refs' := [("self", .ref P.io)]) (fun x v hx => ?_) (fun q hq => by simp only [List.mem_singleton] at hq; subst hq; rfl)
    (fun g L' s' R' h' => ?_) fun fz' s' o' dd v e sb hA hv => ?_
  · simp only [List.mem_cons, List.not_mem_nil, or_false] at hy
    rcases hy with rfl | rfl
    · kernel_rfl
    · kernel_rfl
  · rw [List.lookup_cons] at hx
    split at hx
    · rename_i e; cases hx; cases eq_of_beq e; exact ⟨_, rfl, .int _ _⟩
    · cases hx
  · have IK := io_ok (prog := prog) (w := w) (C := calleeCx C g L' [((ofString "self"), Value.ref P.io)]) (P := P) (names := ioN 26) (X := fun _ _ _ _ => False) hC R' rfl (by kernel_rfl) (ioN_26 _ _) (by decide +kernel) (T := [("_index", indexSp)]) (fun y hy => by
      rcases List.mem_cons.mp hy with rfl | hy
      · exact ⟨index_pure _, by kernel_rfl⟩
      · cases hy)
    rw [readline_body]
    have hlast : StOk prog w (A.deeper (envOf "StringIO.readline" (fscope (meth 10 26)) L' 541 (.ref 540))) (calleeCx C g L' [((ofString "self"), Value.ref P.io)]) (envOf "StringIO.readline" (fscope (meth 10 26)) L' 541 (.ref 540)) (fun _ _ _ _ => False) o [(ofString "size", Dat.int (-1)), (ofString "size", Dat.int (-1))] rlS (o.at (pastLine P.T k), [(ofString "size", Dat.int (-1)), (ofString "size", Dat.int (-1))], .ret (.str (S (lineSt P.T k)))) := by
      intro fz s Q E h hq
      refine wpAny_Return_some (MethodCall_ (pl := _) ?_ (meth_eq (v := .Name (ofString "self") ⟨366, 15, 366, 19⟩) rfl (by rfl) (by simp) (by rfl)))
      have hk' : (envOf "StringIO.readline" (fscope (meth 10 26)) L' 541 (.ref 540)).kindOf (ofString "self") = some .local := by kernel_rfl
      obtain ⟨hp, tk, mm, Rl, rfl, F, N, rp, ap, lc, rf⟩ := id h
      refine wpAny_Name (wpAny_loadName_local R'.hk hk' (by rw [R'.hl]; exact F.ns) (rf _ (List.Mem.head _)) ?_) (by decide : ((ofString "self") == ("__debug__" : Str)) = false)
      refine meth_on R' h (fun Rl hr => io_here (hC ▸ hr)) (by rfl) (io_get1 Pm) (line_1 Pm) (by kernel_rfl) (by kernel_rfl) rfl rfl ?_
      refine (evs_cons rfl (ev_name (IK.orc o) (x := ofString "size") (show (ioN 26).contains (ofString "size") = true by decide +kernel) (by decide +kernel) rfl) evs_nil) _ fz _ _ E h fun fz₁ s₁ vs s1 h1 x1 => ?_
      cases x1 with
      | cons v1 r1 =>
        cases r1; cases v1
        exact ⟨⟨_, _, _, h1⟩, line_call (C := calleeCx C g L' [((ofString "self"), Value.ref P.io)]) hC hT R' hk hle h1 fun fz₂ s₂ v s2 h2 x2 => hq fz₂ s₂ (fun p hp => s2 p (s1 p hp)) h2 v x2⟩
    exact bl_next (runS_ok IK (rl_0 P o L' (.ref 540))) (bl_next (runS_ok IK (rl_1 P o L' (.ref 540))) (bl_next (runS_ok IK (rl_2 P o L' (.ref 540))) (bl_stop hlast fun _ _ e => by cases e))) fz s' _ _ h' fun fz₂ s₂ s2 h2 v hv => ⟨fz₂, _, _, _, s2, h2, hv, rfl, rfl⟩
  · obtain ⟨rfl, rfl⟩ := e
    exact hq fz' s' v sb hA hv
end
structure RS where
  st : Nat
  tok : List Nat
  ln : Nat
  pos : Nat
  pb : List Nat
  quoted : Bool
  esc : Nat
noncomputable def stV : Nat → V
  | 0 => .none
  | c + 1 => .str (S [c + 1])
inductive ROut where
  | go (s : RS)
  | brk (s : RS)
  | exc (k : Nat) (s : RS)
noncomputable def stopIf (b : Bool) (s : RS) : ROut := if b = true then .brk s else .go s
noncomputable def fullT (posix : Bool) (s : RS) : Bool := (!s.tok.isEmpty) || (posix && s.quoted)
noncomputable def lexNil (T M W : List Nat) (posix : Bool) (s : RS) : List Nat → ROut
  | [] => .brk { s with st := 0 }
  | c :: _ =>
    if c ∈ [32, 9, 13, 10] then stopIf (fullT posix s) s
    else if c = 35 then .go { s with pos := pastLine T s.pos, ln := s.ln + 1 }
    else if posix = true ∧ c = 92 then .go { s with esc := 97, st := 92 }
    else if c ∈ W then .go { s with tok := [c], st := 97 }
    else if c ∈ M then .go { s with tok := [c], st := 99 }
    else if c ∈ [39, 34] then .go { s with tok := if posix = true then s.tok else [c], st := c }
    else .brk { s with tok := [c] }
noncomputable def lexQuote (posix : Bool) (s : RS) : List Nat → ROut
  | [] => .exc 1 { s with quoted := true }
  | c :: _ =>
    if c = s.st then (if posix = true then .go { s with st := 97, quoted := true } else .brk { s with tok := s.tok ++ [c], st := 32, quoted := true })
    else if posix = true ∧ c = 92 ∧ s.st = 34 then .go { s with esc := s.st, st := 92, quoted := true }
    else .go { s with tok := s.tok ++ [c], quoted := true }
noncomputable def lexEsc (s : RS) : List Nat → ROut
  | [] => .exc 2 s
  | c :: _ => .go { s with tok := (if s.esc ∈ [39, 34] ∧ c ≠ 92 ∧ c ≠ s.esc then s.tok ++ [92] else s.tok) ++ [c], st := s.esc }
noncomputable def lexRun (T M : List Nat) (posix : Bool) (s : RS) : List Nat → ROut
  | [] => .brk { s with st := 0 }
  | c :: _ =>
    if c ∈ [32, 9, 13, 10] then stopIf (fullT posix s) { s with st := 32 }
    else if c = 35 then (if posix = true then stopIf (fullT posix s) { s with st := 32, pos := pastLine T s.pos, ln := s.ln + 1 } else .go { s with pos := pastLine T s.pos, ln := s.ln + 1 })
    else if c ∈ M then .go { s with tok := s.tok ++ [c] }
    else .brk { s with st := 32, pb := s.pb ++ [c] }
noncomputable def lexWord (T W : List Nat) (posix : Bool) (s : RS) : List Nat → ROut
  | [] => .brk { s with st := 0 }
  | c :: _ =>
    if c ∈ [32, 9, 13, 10] then stopIf (fullT posix s) { s with st := 32 }
    else if c = 35 then (if posix = true then stopIf (fullT posix s) { s with st := 32, pos := pastLine T s.pos, ln := s.ln + 1 } else .go { s with pos := pastLine T s.pos, ln := s.ln + 1 })
    else if posix = true ∧ c ∈ [39, 34] then .go { s with st := c }
    else if posix = true ∧ c = 92 then .go { s with esc := 97, st := 92 }
    else if c ∈ W ∨ c ∈ [39, 34] then .go { s with tok := s.tok ++ [c] }
    else stopIf (fullT posix s) { s with st := 32, pb := s.pb ++ [c] }
section
variable {T M W : List Nat} {posix : Bool} {s : RS} {c : Nat} {r : List Nat}
theorem nil_ws (h : c ∈ [32, 9, 13, 10]) : lexNil T M W posix s (c :: r) = stopIf (fullT posix s) s := if_pos h
theorem nil_hash (h1 : c ∉ [32, 9, 13, 10]) (h : c = 35) : lexNil T M W posix s (c :: r) = .go { s with pos := pastLine T s.pos, ln := s.ln + 1 } := (if_neg h1).trans (if_pos h)
theorem nil_esc (h1 : c ∉ [32, 9, 13, 10]) (h2 : c ≠ 35) (h : posix = true ∧ c = 92) : lexNil T M W posix s (c :: r) = .go { s with esc := 97, st := 92 } := (if_neg h1).trans ((if_neg h2).trans (if_pos h))
theorem nil_word (h1 : c ∉ [32, 9, 13, 10]) (h2 : c ≠ 35) (h3 : ¬(posix = true ∧ c = 92)) (h : c ∈ W) : lexNil T M W posix s (c :: r) = .go { s with tok := [c], st := 97 } := (if_neg h1).trans ((if_neg h2).trans ((if_neg h3).trans (if_pos h)))
theorem nil_run (h1 : c ∉ [32, 9, 13, 10]) (h2 : c ≠ 35) (h3 : ¬(posix = true ∧ c = 92)) (h4 : c ∉ W) (h : c ∈ M) : lexNil T M W posix s (c :: r) = .go { s with tok := [c], st := 99 } := (if_neg h1).trans ((if_neg h2).trans ((if_neg h3).trans ((if_neg h4).trans (if_pos h))))
theorem nil_quote (h1 : c ∉ [32, 9, 13, 10]) (h2 : c ≠ 35) (h3 : ¬(posix = true ∧ c = 92)) (h4 : c ∉ W) (h5 : c ∉ M) (h : c ∈ [39, 34]) : lexNil T M W posix s (c :: r) = .go { s with tok := if posix = true then s.tok else [c], st := c } := (if_neg h1).trans ((if_neg h2).trans ((if_neg h3).trans ((if_neg h4).trans ((if_neg h5).trans (if_pos h)))))
theorem nil_lone (h1 : c ∉ [32, 9, 13, 10]) (h2 : c ≠ 35) (h3 : ¬(posix = true ∧ c = 92)) (h4 : c ∉ W) (h5 : c ∉ M) (h : c ∉ [39, 34]) : lexNil T M W posix s (c :: r) = .brk { s with tok := [c] } := (if_neg h1).trans ((if_neg h2).trans ((if_neg h3).trans ((if_neg h4).trans ((if_neg h5).trans (if_neg h)))))
theorem run_ws (h : c ∈ [32, 9, 13, 10]) : lexRun T M posix s (c :: r) = stopIf (fullT posix s) { s with st := 32 } := if_pos h
theorem run_hash (h1 : c ∉ [32, 9, 13, 10]) (h : c = 35) : lexRun T M posix s (c :: r) = if posix = true then stopIf (fullT posix s) { s with st := 32, pos := pastLine T s.pos, ln := s.ln + 1 } else .go { s with pos := pastLine T s.pos, ln := s.ln + 1 } := (if_neg h1).trans (if_pos h)
theorem run_in (h1 : c ∉ [32, 9, 13, 10]) (h2 : c ≠ 35) (h : c ∈ M) : lexRun T M posix s (c :: r) = .go { s with tok := s.tok ++ [c] } := (if_neg h1).trans ((if_neg h2).trans (if_pos h))
theorem run_out (h1 : c ∉ [32, 9, 13, 10]) (h2 : c ≠ 35) (h : c ∉ M) : lexRun T M posix s (c :: r) = .brk { s with st := 32, pb := s.pb ++ [c] } := (if_neg h1).trans ((if_neg h2).trans (if_neg h))
theorem word_ws (h : c ∈ [32, 9, 13, 10]) : lexWord T W posix s (c :: r) = stopIf (fullT posix s) { s with st := 32 } := if_pos h
theorem word_hash (h1 : c ∉ [32, 9, 13, 10]) (h : c = 35) : lexWord T W posix s (c :: r) = if posix = true then stopIf (fullT posix s) { s with st := 32, pos := pastLine T s.pos, ln := s.ln + 1 } else .go { s with pos := pastLine T s.pos, ln := s.ln + 1 } := (if_neg h1).trans (if_pos h)
theorem word_quote (h1 : c ∉ [32, 9, 13, 10]) (h2 : c ≠ 35) (h : posix = true ∧ c ∈ [39, 34]) : lexWord T W posix s (c :: r) = .go { s with st := c } := (if_neg h1).trans ((if_neg h2).trans (if_pos h))
theorem word_esc (h1 : c ∉ [32, 9, 13, 10]) (h2 : c ≠ 35) (h3 : ¬(posix = true ∧ c ∈ [39, 34])) (h : posix = true ∧ c = 92) : lexWord T W posix s (c :: r) = .go { s with esc := 97, st := 92 } := (if_neg h1).trans ((if_neg h2).trans ((if_neg h3).trans (if_pos h)))
theorem word_in (h1 : c ∉ [32, 9, 13, 10]) (h2 : c ≠ 35) (h3 : ¬(posix = true ∧ c ∈ [39, 34])) (h4 : ¬(posix = true ∧ c = 92)) (h : c ∈ W ∨ c ∈ [39, 34]) : lexWord T W posix s (c :: r) = .go { s with tok := s.tok ++ [c] } := (if_neg h1).trans ((if_neg h2).trans ((if_neg h3).trans ((if_neg h4).trans (if_pos h))))
theorem word_out (h1 : c ∉ [32, 9, 13, 10]) (h2 : c ≠ 35) (h3 : ¬(posix = true ∧ c ∈ [39, 34])) (h4 : ¬(posix = true ∧ c = 92)) (h : ¬(c ∈ W ∨ c ∈ [39, 34])) : lexWord T W posix s (c :: r) = stopIf (fullT posix s) { s with st := 32, pb := s.pb ++ [c] } := (if_neg h1).trans ((if_neg h2).trans ((if_neg h3).trans ((if_neg h4).trans (if_neg h))))
end
noncomputable def lexChain (T M W : List Nat) (posix : Bool) (s : RS) (cs : List Nat) : ROut :=
  if s.st = 0 then .brk { s with tok := [] }
  else if s.st = 32 then lexNil T M W posix s cs
  else if s.st = 39 ∨ s.st = 34 then lexQuote posix s cs
  else if s.st = 92 then lexEsc s cs
  else if s.st = 99 then lexRun T M posix s cs
  else lexWord T W posix s cs
noncomputable def loOf (s : RS) : LO := ⟨stV s.st, .str (S s.tok), .int (s.ln : Int), .int (s.pos : Int), s.pb⟩
noncomputable abbrev rB (s : RS) : Loc := [("quoted", .bool s.quoted), ("escapedstate", .str (S [s.esc]))]
noncomputable abbrev rC (cs : List Nat) (s : RS) : Loc := ("nextchar", .str (S cs)) :: rB s
noncomputable def RDid (r : Option (LO × Loc × Fl)) : ROut → Prop
  | .go s => ∃ ρ fl, (fl = .next ∨ fl = .cont) ∧ r = some (loOf s, ρ, fl) ∧ sle (rB s) ρ
  | .brk s => ∃ ρ, r = some (loOf s, ρ, .brk) ∧ sle (rB s) ρ
  | .exc k s => ∃ ρ, r = some (loOf s, ρ, .exc k)
theorem r_go {s : RS} {r : Option (LO × Loc × Fl)} {ρ : Loc} {fl : Fl} (h : r = some (loOf s, ρ, fl)) (hf : fl = .next ∨ fl = .cont) (hs : sle (rB s) ρ) : RDid r (.go s) := ⟨ρ, fl, hf, h, hs⟩
theorem r_brk {s : RS} {r : Option (LO × Loc × Fl)} {ρ : Loc} (h : r = some (loOf s, ρ, .brk)) (hs : sle (rB s) ρ) : RDid r (.brk s) := ⟨ρ, h, hs⟩
theorem nz_S (a : List Nat) : ((((S a).length : Nat) : Int) != (0 : Int)) = !a.isEmpty := by
  rw [len_S]
  cases a with
  | nil => rfl
  | cons x r =>
    have : ((((x :: r).length : Nat) : Int) != 0) = true := bne_iff_ne.mpr (by rw [List.length_cons]; lia)
    rw [this]; rfl
theorem litws4 : (ofString " \t\x0d\n") = S [32, 9, 13, 10] := by decide +kernel
theorem lit39 : (ofString "'") = S [39] := by decide +kernel
theorem lit97 : (ofString "a") = S [97] := by decide +kernel
theorem lit99 : (ofString "c") = S [99] := by decide +kernel
structure Small (P : LP) (s : RS) : Prop where
  tok : s.tok.length ≤ 10000
  ml : P.M.length ≤ 100
  ml1 : P.M ≠ []
  pos : s.pos ≤ P.T.length
  pb : s.pb.length ≤ 800
theorem posOk_of {P : LP} {k : Nat} (h : k ≤ P.T.length) : posOk P (.int (k : Int)) = true := by
  unfold posOk
  simp only [Bool.and_eq_true, decide_eq_true_eq]
  lia
theorem natOf_nat (k : Nat) : natOf (.int (k : Int)) = k := rfl
noncomputable abbrev mkP (P : LP) (b : Bool) : LP := ⟨P.lx, P.ld, P.io, P.id, P.pb, P.fs, P.pc, P.T, P.M, P.W, b⟩
theorem emp_nil : ([] : List Nat).isEmpty = true := rfl
theorem emp_cons (c : Nat) (r : List Nat) : (c :: r).isEmpty = false := rfl
theorem stop_did {r : Option (LO × Loc × Fl)} {s : RS} {b : Bool} {ρ : Loc} (hs : sle (rB s) ρ) (h : r = some (loOf s, ρ, if b = true then .brk else .cont)) : RDid r (stopIf b s) := by
  cases b with
  | true => exact r_brk h hs
  | false => exact r_go h (.inr rfl) hs
theorem nil_did (P : LP) (L : Addr) (cd : Value) {s : RS} (hs : Small P s) (h32 : s.st = 32) (cs : List Nat) (hc : cs.length ≤ 1) :
    RDid (runS (rI P) (rE L cd) 80 (loOf s) (rC cs s) (hdS (wbody rW) 3)) (lexNil P.T P.M P.W P.posix s cs) := by
  obtain ⟨st, tok, ln, pos, pb, quoted, esc⟩ := s
  obtain ⟨lx, ld, io, id, pbA, fs, pc, T, M, W, posix⟩ := P
  simp only at h32; subst h32
  have ok : strOk (S tok) = true := strOk_S (by have := hs.tok; simp only at this; lia)
  have okc : strOk (S cs) = true := strOk_S (by lia)
  have okm : strOk (S M) = true := strOk_S (by have := hs.ml; simp only at this; lia)
  have nem : M.isEmpty = false := by
    cases M with
    | nil => exact absurd rfl hs.ml1
    | cons => rfl
  have hb : decide (pb.length ≤ 800) = true := decide_eq_true hs.pb
  have hp := posOk_of hs.pos
  simp only at hp
  cases posix with
  | true =>
    have h := rd_nil_t lx ld io id pbA fs pc T M W L cd (S cs) (S tok) (S [esc]) ln pos pb quoted
    simp only [ok, okc, okm, cond_true, Bool.and_self, nz_S, litws4, lit35, lit92, lit34, lit39, lit97, lit99, litq2, lit32, hp, natOf_nat, Bool.not_not] at h
    match cs, hc with
    | [], _ =>
      simp only [emp_nil, cond_true, Bool.not_true, Bool.not_false] at h
      exact r_brk h ⟨rfl, rfl, trivial⟩
    | [c], _ =>
      simp only [emp_cons, cond_false, cond_true, Bool.not_false, Bool.not_true, cont_S, strEq_S, app_S, List.length_singleton, decide_true, Bool.and_self, Bool.true_and, Bool.and_true, hb, nem] at h
      unfold lexNil
      dsimp only
      by_cases a1 : c ∈ [32, 9, 13, 10]
      · replace h := h.trans (ct (decide_eq_true a1))
        rw [if_pos a1]
        refine stop_did (ρ := rC [c] ⟨0, [], 0, 0, [], quoted, esc⟩) ⟨rfl, rfl, trivial⟩ (h.trans ?_)
        cases tok <;> cases quoted <;> rfl
      rw [if_neg a1]
      replace h := h.trans (cf (decide_eq_false a1))
      by_cases a2 : c = 35
      · subst a2
        simp only [decide_eq_true (show 35 ∈ [35] by decide), cond_true] at h
        rw [if_pos rfl]
        exact r_go h (.inl rfl) ⟨rfl, rfl, trivial⟩
      rw [if_neg a2]
      simp only [decide_eq_false (show ¬ c ∈ [35] by simpa using a2), cond_false] at h
      by_cases a3 : c = 92
      · subst a3
        simp only [decide_eq_true (show 92 ∈ [92] by decide), cond_true] at h
        rw [if_pos ⟨rfl, rfl⟩]
        exact r_go h (.inl rfl) ⟨rfl, rfl, trivial⟩
      rw [if_neg (fun q => a3 q.2)]
      simp only [decide_eq_false (show ¬ c ∈ [92] by simpa using a3), cond_false] at h
      by_cases a4 : c ∈ W
      · replace h := h.trans (ct (decide_eq_true a4))
        rw [if_pos a4]
        exact r_go h (.inl rfl) ⟨rfl, rfl, trivial⟩
      rw [if_neg a4]
      replace h := h.trans (cf (decide_eq_false a4))
      by_cases a5 : c ∈ M
      · replace h := h.trans (ct (decide_eq_true a5))
        rw [if_pos a5]
        exact r_go h (.inl rfl) ⟨rfl, rfl, trivial⟩
      rw [if_neg a5]
      replace h := h.trans (cf (decide_eq_false a5))
      by_cases a6 : c ∈ [39, 34]
      · replace h := h.trans (ct (decide_eq_true a6))
        rw [if_pos a6, if_pos rfl]
        obtain ⟨e, rfl⟩ : ∃ e, c = e + 1 := ⟨c - 1, by simp at a6; lia⟩
        exact r_go h (.inl rfl) ⟨rfl, rfl, trivial⟩
      rw [if_neg a6]
      replace h := h.trans (cf (decide_eq_false a6))
      try simp only [Bool.not_false, cond_true] at h
      exact r_brk h ⟨rfl, rfl, trivial⟩
  | false =>
    have h := rd_nil_f lx ld io id pbA fs pc T M W L cd (S cs) (S tok) (S [esc]) ln pos pb quoted
    simp only [ok, okc, okm, cond_true, Bool.and_self, nz_S, litws4, lit35, lit92, lit34, lit39, lit97, lit99, litq2, lit32, hp, natOf_nat, Bool.not_not] at h
    match cs, hc with
    | [], _ =>
      simp only [emp_nil, cond_true, Bool.not_true, Bool.not_false] at h
      exact r_brk h ⟨rfl, rfl, trivial⟩
    | [c], _ =>
      simp only [emp_cons, cond_false, cond_true, Bool.not_false, Bool.not_true, cont_S, strEq_S, app_S, List.length_singleton, decide_true, Bool.and_self, Bool.true_and, Bool.and_true, hb, nem] at h
      unfold lexNil
      dsimp only
      by_cases a1 : c ∈ [32, 9, 13, 10]
      · replace h := h.trans (ct (decide_eq_true a1))
        rw [if_pos a1]
        refine stop_did (ρ := rC [c] ⟨0, [], 0, 0, [], quoted, esc⟩) ⟨rfl, rfl, trivial⟩ (h.trans ?_)
        cases tok <;> rfl
      rw [if_neg a1]
      replace h := h.trans (cf (decide_eq_false a1))
      by_cases a2 : c = 35
      · subst a2
        simp only [decide_eq_true (show 35 ∈ [35] by decide), cond_true] at h
        rw [if_pos rfl]
        exact r_go h (.inl rfl) ⟨rfl, rfl, trivial⟩
      rw [if_neg a2]
      simp only [decide_eq_false (show ¬ c ∈ [35] by simpa using a2), cond_false] at h
      rw [if_neg (fun q => by cases q.1)]
      by_cases a4 : c ∈ W
      · replace h := h.trans (ct (decide_eq_true a4))
        rw [if_pos a4]
        exact r_go h (.inl rfl) ⟨rfl, rfl, trivial⟩
      rw [if_neg a4]
      replace h := h.trans (cf (decide_eq_false a4))
      by_cases a5 : c ∈ M
      · replace h := h.trans (ct (decide_eq_true a5))
        rw [if_pos a5]
        exact r_go h (.inl rfl) ⟨rfl, rfl, trivial⟩
      rw [if_neg a5]
      replace h := h.trans (cf (decide_eq_false a5))
      by_cases a6 : c ∈ [39, 34]
      · replace h := h.trans (ct (decide_eq_true a6))
        rw [if_pos a6, if_neg (by decide)]
        obtain ⟨e, rfl⟩ : ∃ e, c = e + 1 := ⟨c - 1, by simp at a6; lia⟩
        exact r_go h (.inl rfl) ⟨rfl, rfl, trivial⟩
      rw [if_neg a6]
      replace h := h.trans (cf (decide_eq_false a6))
      try simp only [Bool.not_false, cond_true] at h
      exact r_brk h ⟨rfl, rfl, trivial⟩
theorem word_did (P : LP) (L : Addr) (cd : Value) {s : RS} (hs : Small P s) (h32 : s.st = 97) (cs : List Nat) (hc : cs.length ≤ 1) :
    RDid (runS (rI P) (rE L cd) 80 (loOf s) (rC cs s) (hdS (wbody rW) 3)) (lexWord P.T P.W P.posix s cs) := by
  obtain ⟨st, tok, ln, pos, pb, quoted, esc⟩ := s
  obtain ⟨lx, ld, io, id, pbA, fs, pc, T, M, W, posix⟩ := P
  simp only at h32; subst h32
  have ok : strOk (S tok) = true := strOk_S (by have := hs.tok; simp only at this; lia)
  have okc : strOk (S cs) = true := strOk_S (by lia)
  have okm : strOk (S M) = true := strOk_S (by have := hs.ml; simp only at this; lia)
  have nem : M.isEmpty = false := by
    cases M with
    | nil => exact absurd rfl hs.ml1
    | cons => rfl
  have hb : decide (pb.length ≤ 800) = true := decide_eq_true hs.pb
  have hp := posOk_of hs.pos
  simp only at hp
  cases posix with
  | true =>
    have h := rd_a_t lx ld io id pbA fs pc T M W L cd (S cs) (S tok) (S [esc]) ln pos pb quoted
    simp only [ok, okc, okm, cond_true, Bool.and_self, nz_S, litws4, lit35, lit92, lit34, lit39, lit97, lit99, litq2, lit32, hp, natOf_nat, Bool.not_not] at h
    match cs, hc with
    | [], _ =>
      simp only [emp_nil, cond_true, Bool.not_true, Bool.not_false] at h
      exact r_brk h ⟨rfl, rfl, trivial⟩
    | [c], _ =>
      simp only [emp_cons, cond_false, cond_true, Bool.not_false, Bool.not_true, cont_S, strEq_S, app_S, List.length_singleton, decide_true, Bool.and_self, Bool.true_and, Bool.and_true, hb, nem] at h
      unfold lexWord
      dsimp only
      by_cases a1 : c ∈ [32, 9, 13, 10]
      · replace h := h.trans (ct (decide_eq_true a1))
        rw [if_pos a1]
        refine stop_did (ρ := rC [c] ⟨0, [], 0, 0, [], quoted, esc⟩) ⟨rfl, rfl, trivial⟩ (h.trans ?_)
        cases tok <;> cases quoted <;> rfl
      rw [if_neg a1]
      replace h := h.trans (cf (decide_eq_false a1))
      by_cases a2 : c = 35
      · subst a2
        simp only [decide_eq_true (show 35 ∈ [35] by decide), cond_true] at h
        rw [if_pos rfl, if_pos rfl]
        refine stop_did (ρ := rC [35] ⟨0, [], 0, 0, [], quoted, esc⟩) ⟨rfl, rfl, trivial⟩ (h.trans ?_)
        cases tok <;> cases quoted <;> rfl
      rw [if_neg a2]
      simp only [decide_eq_false (show ¬ c ∈ [35] by simpa using a2), cond_false] at h
      by_cases a6 : c ∈ [39, 34]
      · replace h := h.trans (ct (decide_eq_true a6))
        rw [if_pos ⟨rfl, a6⟩]
        obtain ⟨e, rfl⟩ : ∃ e, c = e + 1 := ⟨c - 1, by simp at a6; lia⟩
        exact r_go h (.inl rfl) ⟨rfl, rfl, trivial⟩
      rw [if_neg (fun q => a6 q.2)]
      replace h := h.trans (cf (decide_eq_false a6))
      by_cases a3 : c = 92
      · subst a3
        simp only [decide_eq_true (show 92 ∈ [92] by decide), cond_true] at h
        rw [if_pos ⟨rfl, rfl⟩]
        exact r_go h (.inl rfl) ⟨rfl, rfl, trivial⟩
      rw [if_neg (fun q => a3 q.2)]
      simp only [decide_eq_false (show ¬ c ∈ [92] by simpa using a3), cond_false] at h
      by_cases a4 : c ∈ W
      · replace h := h.trans (ct (decide_eq_true a4))
        rw [if_pos (.inl a4)]
        exact r_go h (.inl rfl) ⟨rfl, rfl, trivial⟩
      replace h := h.trans (cf (decide_eq_false a4))
      rw [if_neg (fun q => q.elim a4 a6)]
      try simp only [decide_eq_false a6, cond_false, Bool.not_false, cond_true] at h
      refine stop_did (ρ := rC [c] ⟨0, [], 0, 0, [], quoted, esc⟩) ⟨rfl, rfl, trivial⟩ (h.trans ?_)
      cases tok <;> cases quoted <;> rfl
  | false =>
    have h := rd_a_f lx ld io id pbA fs pc T M W L cd (S cs) (S tok) (S [esc]) ln pos pb quoted
    simp only [ok, okc, okm, cond_true, Bool.and_self, nz_S, litws4, lit35, lit92, lit34, lit39, lit97, lit99, litq2, lit32, hp, natOf_nat, Bool.not_not] at h
    match cs, hc with
    | [], _ =>
      simp only [emp_nil, cond_true, Bool.not_true, Bool.not_false] at h
      exact r_brk h ⟨rfl, rfl, trivial⟩
    | [c], _ =>
      simp only [emp_cons, cond_false, cond_true, Bool.not_false, Bool.not_true, cont_S, strEq_S, app_S, List.length_singleton, decide_true, Bool.and_self, Bool.true_and, Bool.and_true, hb, nem] at h
      unfold lexWord
      dsimp only
      by_cases a1 : c ∈ [32, 9, 13, 10]
      · replace h := h.trans (ct (decide_eq_true a1))
        rw [if_pos a1]
        refine stop_did (ρ := rC [c] ⟨0, [], 0, 0, [], quoted, esc⟩) ⟨rfl, rfl, trivial⟩ (h.trans ?_)
        cases tok <;> rfl
      rw [if_neg a1]
      replace h := h.trans (cf (decide_eq_false a1))
      by_cases a2 : c = 35
      · subst a2
        simp only [decide_eq_true (show 35 ∈ [35] by decide), cond_true] at h
        rw [if_pos rfl, if_neg (by decide)]
        exact r_go h (.inl rfl) ⟨rfl, rfl, trivial⟩
      rw [if_neg a2]
      simp only [decide_eq_false (show ¬ c ∈ [35] by simpa using a2), cond_false] at h
      rw [if_neg (fun q => by cases q.1), if_neg (fun q => by cases q.1)]
      by_cases a4 : c ∈ W
      · replace h := h.trans (ct (decide_eq_true a4))
        rw [if_pos (.inl a4)]
        exact r_go h (.inl rfl) ⟨rfl, rfl, trivial⟩
      replace h := h.trans (cf (decide_eq_false a4))
      by_cases a6 : c ∈ [39, 34]
      · replace h := h.trans (ct (decide_eq_true a6))
        rw [if_pos (.inr a6)]
        exact r_go h (.inl rfl) ⟨rfl, rfl, trivial⟩
      replace h := h.trans (cf (decide_eq_false a6))
      rw [if_neg (fun q => q.elim a4 a6)]
      refine stop_did (ρ := rC [c] ⟨0, [], 0, 0, [], quoted, esc⟩) ⟨rfl, rfl, trivial⟩ (h.trans ?_)
      cases tok <;> rfl
theorem run_did (P : LP) (L : Addr) (cd : Value) {s : RS} (hs : Small P s) (h32 : s.st = 99) (cs : List Nat) (hc : cs.length ≤ 1) :
    RDid (runS (rI P) (rE L cd) 80 (loOf s) (rC cs s) (hdS (wbody rW) 3)) (lexRun P.T P.M P.posix s cs) := by
  obtain ⟨st, tok, ln, pos, pb, quoted, esc⟩ := s
  obtain ⟨lx, ld, io, id, pbA, fs, pc, T, M, W, posix⟩ := P
  simp only at h32; subst h32
  have ok : strOk (S tok) = true := strOk_S (by have := hs.tok; simp only at this; lia)
  have okc : strOk (S cs) = true := strOk_S (by lia)
  have okm : strOk (S M) = true := strOk_S (by have := hs.ml; simp only at this; lia)
  have nem : M.isEmpty = false := by
    cases M with
    | nil => exact absurd rfl hs.ml1
    | cons => rfl
  have hb : decide (pb.length ≤ 800) = true := decide_eq_true hs.pb
  have hp := posOk_of hs.pos
  simp only at hp
  cases posix with
  | true =>
    have h := rd_c_t lx ld io id pbA fs pc T M W L cd (S cs) (S tok) (S [esc]) ln pos pb quoted
    simp only [ok, okc, okm, cond_true, Bool.and_self, nz_S, litws4, lit35, lit92, lit34, lit39, lit97, lit99, litq2, lit32, hp, natOf_nat, Bool.not_not] at h
    match cs, hc with
    | [], _ =>
      simp only [emp_nil, cond_true, Bool.not_true, Bool.not_false] at h
      exact r_brk h ⟨rfl, rfl, trivial⟩
    | [c], _ =>
      simp only [emp_cons, cond_false, cond_true, Bool.not_false, Bool.not_true, cont_S, strEq_S, app_S, List.length_singleton, decide_true, Bool.and_self, Bool.true_and, Bool.and_true, hb, nem] at h
      unfold lexRun
      dsimp only
      by_cases a1 : c ∈ [32, 9, 13, 10]
      · replace h := h.trans (ct (decide_eq_true a1))
        rw [if_pos a1]
        refine stop_did (ρ := rC [c] ⟨0, [], 0, 0, [], quoted, esc⟩) ⟨rfl, rfl, trivial⟩ (h.trans ?_)
        cases tok <;> cases quoted <;> rfl
      rw [if_neg a1]
      replace h := h.trans (cf (decide_eq_false a1))
      by_cases a2 : c = 35
      · subst a2
        simp only [decide_eq_true (show 35 ∈ [35] by decide), cond_true] at h
        rw [if_pos rfl, if_pos rfl]
        refine stop_did (ρ := rC [35] ⟨0, [], 0, 0, [], quoted, esc⟩) ⟨rfl, rfl, trivial⟩ (h.trans ?_)
        cases tok <;> cases quoted <;> rfl
      rw [if_neg a2]
      simp only [decide_eq_false (show ¬ c ∈ [35] by simpa using a2), cond_false] at h
      by_cases a5 : c ∈ M
      · replace h := h.trans (ct (decide_eq_true a5))
        rw [if_pos a5]
        exact r_go h (.inl rfl) ⟨rfl, rfl, trivial⟩
      rw [if_neg a5]
      replace h := h.trans (cf (decide_eq_false a5))
      try simp only [decide_eq_false a1, Bool.not_false, cond_true] at h
      exact r_brk h ⟨rfl, rfl, trivial⟩
  | false =>
    have h := rd_c_f lx ld io id pbA fs pc T M W L cd (S cs) (S tok) (S [esc]) ln pos pb quoted
    simp only [ok, okc, okm, cond_true, Bool.and_self, nz_S, litws4, lit35, lit92, lit34, lit39, lit97, lit99, litq2, lit32, hp, natOf_nat, Bool.not_not] at h
    match cs, hc with
    | [], _ =>
      simp only [emp_nil, cond_true, Bool.not_true, Bool.not_false] at h
      exact r_brk h ⟨rfl, rfl, trivial⟩
    | [c], _ =>
      simp only [emp_cons, cond_false, cond_true, Bool.not_false, Bool.not_true, cont_S, strEq_S, app_S, List.length_singleton, decide_true, Bool.and_self, Bool.true_and, Bool.and_true, hb, nem] at h
      unfold lexRun
      dsimp only
      by_cases a1 : c ∈ [32, 9, 13, 10]
      · replace h := h.trans (ct (decide_eq_true a1))
        rw [if_pos a1]
        refine stop_did (ρ := rC [c] ⟨0, [], 0, 0, [], quoted, esc⟩) ⟨rfl, rfl, trivial⟩ (h.trans ?_)
        cases tok <;> rfl
      rw [if_neg a1]
      replace h := h.trans (cf (decide_eq_false a1))
      by_cases a2 : c = 35
      · subst a2
        simp only [decide_eq_true (show 35 ∈ [35] by decide), cond_true] at h
        rw [if_pos rfl, if_neg (by decide)]
        exact r_go h (.inl rfl) ⟨rfl, rfl, trivial⟩
      rw [if_neg a2]
      simp only [decide_eq_false (show ¬ c ∈ [35] by simpa using a2), cond_false] at h
      by_cases a5 : c ∈ M
      · replace h := h.trans (ct (decide_eq_true a5))
        rw [if_pos a5]
        exact r_go h (.inl rfl) ⟨rfl, rfl, trivial⟩
      rw [if_neg a5]
      replace h := h.trans (cf (decide_eq_false a5))
      try simp only [decide_eq_false a1, Bool.not_false, cond_true] at h
      exact r_brk h ⟨rfl, rfl, trivial⟩
theorem dq_did (P : LP) (L : Addr) (cd : Value) {s : RS} (hs : Small P s) (h32 : s.st = 34) (cs : List Nat) (hc : cs.length ≤ 1) :
    RDid (runS (rI P) (rE L cd) 80 (loOf s) (rC cs s) (hdS (wbody rW) 3)) (lexQuote P.posix s cs) := by
  obtain ⟨st, tok, ln, pos, pb, quoted, esc⟩ := s
  obtain ⟨lx, ld, io, id, pbA, fs, pc, T, M, W, posix⟩ := P
  simp only at h32; subst h32
  have ok : strOk (S tok) = true := strOk_S (by have := hs.tok; simp only at this; lia)
  have okc : strOk (S cs) = true := strOk_S (by lia)
  have okm : strOk (S M) = true := strOk_S (by have := hs.ml; simp only at this; lia)
  have nem : M.isEmpty = false := by
    cases M with
    | nil => exact absurd rfl hs.ml1
    | cons => rfl
  have hb : decide (pb.length ≤ 800) = true := decide_eq_true hs.pb
  have hp := posOk_of hs.pos
  simp only at hp
  cases posix with
  | true =>
    have h := rd_dq_t lx ld io id pbA fs pc T M W L cd (S cs) (S tok) (S [esc]) ln pos pb quoted
    simp only [ok, okc, okm, cond_true, Bool.and_self, nz_S, litws4, lit35, lit92, lit34, lit39, lit97, lit99, litq2, lit32, hp, natOf_nat, Bool.not_not] at h
    match cs, hc with
    | [], _ =>
      simp only [emp_nil, cond_true, Bool.not_true, Bool.not_false] at h
      exact ⟨_, h⟩
    | [c], _ =>
      simp only [emp_cons, cond_false, cond_true, Bool.not_false, Bool.not_true, cont_S, strEq_S, app_S, List.length_singleton, decide_true, Bool.and_self, Bool.true_and, Bool.and_true, hb, nem] at h
      unfold lexQuote
      dsimp only
      by_cases a1 : c = 34
      · subst a1
        simp only [show ([34] == [34]) = true by decide, cond_true] at h
        rw [if_pos rfl, if_pos rfl]
        exact r_go h (.inl rfl) ⟨rfl, rfl, trivial⟩
      rw [if_neg a1]
      simp only [show ([c] == [34]) = false by simpa using a1, cond_false] at h
      by_cases a3 : c = 92
      · subst a3
        simp only [decide_eq_true (show 92 ∈ [92] by decide), cond_true] at h
        rw [if_pos ⟨rfl, rfl, rfl⟩]
        exact r_go h (.inl rfl) ⟨rfl, rfl, trivial⟩
      rw [if_neg (fun q => a3 q.2.1)]
      simp only [decide_eq_false (show ¬ c ∈ [92] by simpa using a3), cond_false] at h
      exact r_go h (.inl rfl) ⟨rfl, rfl, trivial⟩
  | false =>
    have h := rd_dq_f lx ld io id pbA fs pc T M W L cd (S cs) (S tok) (S [esc]) ln pos pb quoted
    simp only [ok, okc, okm, cond_true, Bool.and_self, nz_S, litws4, lit35, lit92, lit34, lit39, lit97, lit99, litq2, lit32, hp, natOf_nat, Bool.not_not] at h
    match cs, hc with
    | [], _ =>
      simp only [emp_nil, cond_true, Bool.not_true, Bool.not_false] at h
      exact ⟨_, h⟩
    | [c], _ =>
      simp only [emp_cons, cond_false, cond_true, Bool.not_false, Bool.not_true, cont_S, strEq_S, app_S, List.length_singleton, decide_true, Bool.and_self, Bool.true_and, Bool.and_true, hb, nem] at h
      unfold lexQuote
      dsimp only
      by_cases a1 : c = 34
      · subst a1
        simp only [show ([34] == [34]) = true by decide, cond_true] at h
        rw [if_pos rfl, if_neg (by decide)]
        exact r_brk h ⟨rfl, rfl, trivial⟩
      rw [if_neg a1]
      simp only [show ([c] == [34]) = false by simpa using a1, cond_false] at h
      rw [if_neg (fun q => by cases q.1)]
      exact r_go h (.inl rfl) ⟨rfl, rfl, trivial⟩
theorem sq_did (P : LP) (L : Addr) (cd : Value) {s : RS} (hs : Small P s) (h32 : s.st = 39) (cs : List Nat) (hc : cs.length ≤ 1) :
    RDid (runS (rI P) (rE L cd) 80 (loOf s) (rC cs s) (hdS (wbody rW) 3)) (lexQuote P.posix s cs) := by
  obtain ⟨st, tok, ln, pos, pb, quoted, esc⟩ := s
  obtain ⟨lx, ld, io, id, pbA, fs, pc, T, M, W, posix⟩ := P
  simp only at h32; subst h32
  have ok : strOk (S tok) = true := strOk_S (by have := hs.tok; simp only at this; lia)
  have okc : strOk (S cs) = true := strOk_S (by lia)
  have okm : strOk (S M) = true := strOk_S (by have := hs.ml; simp only at this; lia)
  have nem : M.isEmpty = false := by
    cases M with
    | nil => exact absurd rfl hs.ml1
    | cons => rfl
  have hb : decide (pb.length ≤ 800) = true := decide_eq_true hs.pb
  have hp := posOk_of hs.pos
  simp only at hp
  cases posix with
  | true =>
    have h := rd_sq_t lx ld io id pbA fs pc T M W L cd (S cs) (S tok) (S [esc]) ln pos pb quoted
    simp only [ok, okc, okm, cond_true, Bool.and_self, nz_S, litws4, lit35, lit92, lit34, lit39, lit97, lit99, litq2, lit32, hp, natOf_nat, Bool.not_not] at h
    match cs, hc with
    | [], _ =>
      simp only [emp_nil, cond_true, Bool.not_true, Bool.not_false] at h
      exact ⟨_, h⟩
    | [c], _ =>
      simp only [emp_cons, cond_false, cond_true, Bool.not_false, Bool.not_true, cont_S, strEq_S, app_S, List.length_singleton, decide_true, Bool.and_self, Bool.true_and, Bool.and_true, hb, nem] at h
      unfold lexQuote
      dsimp only
      by_cases a1 : c = 39
      · subst a1
        simp only [show ([39] == [39]) = true by decide, cond_true] at h
        rw [if_pos rfl, if_pos rfl]
        exact r_go h (.inl rfl) ⟨rfl, rfl, trivial⟩
      rw [if_neg a1]
      simp only [show ([c] == [39]) = false by simpa using a1, cond_false] at h
      rw [if_neg (fun q => by cases q.2.2)]
      have h : _ = some (_, _, _) := h.trans (by cases decide (c ∈ [92]) <;> rfl)
      exact r_go h (.inl rfl) ⟨rfl, rfl, trivial⟩
  | false =>
    have h := rd_sq_f lx ld io id pbA fs pc T M W L cd (S cs) (S tok) (S [esc]) ln pos pb quoted
    simp only [ok, okc, okm, cond_true, Bool.and_self, nz_S, litws4, lit35, lit92, lit34, lit39, lit97, lit99, litq2, lit32, hp, natOf_nat, Bool.not_not] at h
    match cs, hc with
    | [], _ =>
      simp only [emp_nil, cond_true, Bool.not_true, Bool.not_false] at h
      exact ⟨_, h⟩
    | [c], _ =>
      simp only [emp_cons, cond_false, cond_true, Bool.not_false, Bool.not_true, cont_S, strEq_S, app_S, List.length_singleton, decide_true, Bool.and_self, Bool.true_and, Bool.and_true, hb, nem] at h
      unfold lexQuote
      dsimp only
      by_cases a1 : c = 39
      · subst a1
        simp only [show ([39] == [39]) = true by decide, cond_true] at h
        rw [if_pos rfl, if_neg (by decide)]
        exact r_brk h ⟨rfl, rfl, trivial⟩
      rw [if_neg a1]
      simp only [show ([c] == [39]) = false by simpa using a1, cond_false] at h
      rw [if_neg (fun q => by cases q.1)]
      exact r_go h (.inl rfl) ⟨rfl, rfl, trivial⟩
theorem esc_did (P : LP) (hpx : P.posix = true) (L : Addr) (cd : Value) {s : RS} (hs : Small P s) (h32 : s.st = 92) (he : s.esc = 97 ∨ s.esc = 34) (cs : List Nat) (hc : cs.length ≤ 1) :
    RDid (runS (rI P) (rE L cd) 80 (loOf s) (rC cs s) (hdS (wbody rW) 3)) (lexEsc s cs) := by
  obtain ⟨st, tok, ln, pos, pb, quoted, esc⟩ := s
  obtain ⟨lx, ld, io, id, pbA, fs, pc, T, M, W, posix⟩ := P
  simp only at h32 hpx he; subst h32; subst hpx
  have ht : tok.length ≤ 10000 := hs.tok
  have ok : strOk (S tok) = true := strOk_S (by lia)
  have ok' : strOk (S (tok ++ [92])) = true := strOk_S (by simp; lia)
  have okc : strOk (S cs) = true := strOk_S (by lia)
  rcases he with rfl | rfl
  · have h := rd_bs_a lx ld io id pbA fs pc T M W L cd (S cs) (S tok) ln pos pb quoted
    simp only [ok, okc, cond_true, Bool.and_self, nz_S, lit92, lit97, Bool.not_not] at h
    match cs, hc with
    | [], _ => simp only [emp_nil, cond_true] at h; exact ⟨_, h⟩
    | [c], _ =>
      simp only [emp_cons, cond_false, app_S] at h
      unfold lexEsc
      dsimp only
      rw [if_neg (fun q => by simp at q)]
      exact r_go h (.inl rfl) ⟨rfl, rfl, trivial⟩
  · have h := rd_bs_d lx ld io id pbA fs pc T M W L cd (S cs) (S tok) ln pos pb quoted
    simp only [ok, okc, cond_true, Bool.and_self, nz_S, lit92, lit34, Bool.not_not, app_S, ok', Bool.and_true] at h
    match cs, hc with
    | [], _ => simp only [emp_nil, cond_true] at h; exact ⟨_, h⟩
    | [c], _ =>
      simp only [emp_cons, cond_false, app_S, strEq_S] at h
      unfold lexEsc
      dsimp only
      by_cases a1 : c = 92
      · subst a1
        rw [if_neg (fun q => q.2.1 rfl)]
        simp only [show ([92] == [92]) = true by decide, Bool.not_true, cond_false] at h
        exact r_go h (.inl rfl) ⟨rfl, rfl, trivial⟩
      simp only [show ([c] == [92]) = false by simpa using a1, Bool.not_false, cond_true] at h
      by_cases a2 : c = 34
      · subst a2
        rw [if_neg (fun q => q.2.2 rfl)]
        simp only [show ([34] == [34]) = true by decide, Bool.not_true, cond_false] at h
        exact r_go h (.inl rfl) ⟨rfl, rfl, trivial⟩
      simp only [show ([c] == [34]) = false by simpa using a2, Bool.not_false, cond_true] at h
      rw [if_pos ⟨by simp, a1, a2⟩]
      exact r_go h (.inl rfl) ⟨rfl, rfl, trivial⟩
theorem none_did (P : LP) (L : Addr) (cd : Value) {s : RS} (h32 : s.st = 0) (cs : List Nat) :
    RDid (runS (rI P) (rE L cd) 80 (loOf s) (rC cs s) (hdS (wbody rW) 3)) (.brk { s with tok := [] }) := by
  obtain ⟨st, tok, ln, pos, pb, quoted, esc⟩ := s
  obtain ⟨lx, ld, io, id, pbA, fs, pc, T, M, W, posix⟩ := P
  simp only at h32; subst h32
  cases posix with
  | true => exact r_brk (rd_none_t lx ld io id pbA fs pc T M W L cd (S cs) (S tok) (S [esc]) ln pos pb quoted) ⟨rfl, rfl, trivial⟩
  | false => exact r_brk (rd_none_f lx ld io id pbA fs pc T M W L cd (S cs) (S tok) (S [esc]) ln pos pb quoted) ⟨rfl, rfl, trivial⟩
structure RSok (P : LP) (s : RS) : Prop where
  st : s.st ∈ [0, 32, 97, 99, 39, 34, 92]
  esc : s.st = 92 → P.posix = true ∧ (s.esc = 97 ∨ s.esc = 34)
theorem st_97 {n : Nat} (h : n ∈ [0, 32, 97, 99, 39, 34, 92]) (h0 : n ≠ 0) (h1 : n ≠ 32) (h2 : n ≠ 39) (h3 : n ≠ 34) (h4 : n ≠ 92) (h5 : n ≠ 99) : n = 97 := by
  rcases List.mem_cons.mp h with h | h
  · exact absurd h h0
  rcases List.mem_cons.mp h with h | h
  · exact absurd h h1
  rcases List.mem_cons.mp h with h | h
  · exact h
  rcases List.mem_cons.mp h with h | h
  · exact absurd h h5
  rcases List.mem_cons.mp h with h | h
  · exact absurd h h2
  rcases List.mem_cons.mp h with h | h
  · exact absurd h h3
  · exact absurd (List.mem_singleton.mp h) h4
theorem chain_did (P : LP) (L : Addr) (cd : Value) {s : RS} (hs : Small P s) (hst : RSok P s) (cs : List Nat) (hc : cs.length ≤ 1) :
    RDid (runS (rI P) (rE L cd) 80 (loOf s) (rC cs s) (hdS (wbody rW) 3)) (lexChain P.T P.M P.W P.posix s cs) := by
  unfold lexChain
  by_cases h0 : s.st = 0
  · rw [if_pos h0]; exact none_did P L cd h0 cs
  rw [if_neg h0]
  by_cases h1 : s.st = 32
  · rw [if_pos h1]; exact nil_did P L cd hs h1 cs hc
  rw [if_neg h1]
  by_cases h2 : s.st = 39
  · rw [if_pos (.inl h2)]; exact sq_did P L cd hs h2 cs hc
  by_cases h3 : s.st = 34
  · rw [if_pos (.inr h3)]; exact dq_did P L cd hs h3 cs hc
  rw [if_neg (fun q => q.elim h2 h3)]
  by_cases h4 : s.st = 92
  · rw [if_pos h4]; exact esc_did P (hst.esc h4).1 L cd hs h4 (hst.esc h4).2 cs hc
  rw [if_neg h4]
  by_cases h5 : s.st = 99
  · rw [if_pos h5]; exact run_did P L cd hs h5 cs hc
  rw [if_neg h5]
  exact word_did P L cd hs (st_97 hst.st h0 h1 h2 h3 h4 h5) cs hc
section
set_option tactic.hygienic true
theorem none_ValueError (Pm : Params) : nsIn (K02 Pm) mainGlobals "ValueError" = some none := by kernel_rfl
section
variable {prog : Program} {w : World} {Pm : Params} {p : Program} {loose : List Str} {mean : ExcName → Option Value} {mg mb : Str → Option Value} {A₀ : Around} {base : Heap} {outer : List Env} {A : Around} {env : Env}
theorem lex_setA {C : Cx LO} {P : LP} (hC : C.Rep = lexRep P) {d : Nat} (R : Rim (K02 Pm) p loose mean mg mb A₀ base outer A env C.h₀ C.L d) {o o' : LO} {a : Str} {ρ : Loc} {fz : Led} {s : Shared} {dv : V} {v : Value} {Q : Unit → Shared → Prop} {E : Value → Shared → Prop}
    (ha : (match a == "state" with | true => some { o with state := dv } | false => (match a == "token" with | true => some { o with token := dv } | false => (match a == "lineno" with | true => some { o with lineno := dv } | false => none))) = some o') (h : At C o ρ fz s) (hv : VR fz dv v)
    (hq : ∀ s', At C o' ρ fz s' → Q () s') : wpAny (model prog w) A (setAttr (.ref P.lx) a v) Q E s := by
  split at ha
  case h_1 e => cases ha; cases eq_of_beq e; exact lex_set hC R h hv hq
  case h_2 =>
    split at ha
    case h_1 e =>
      cases ha; cases eq_of_beq e
      exact set_field (o' := { o with token := dv }) R h (fun Rl hr => by
        obtain ⟨es, n, pre, post, e, h1, h2, h3, h4, h5⟩ := lex_turn (o' := { o with token := dv }) (name := "token") (dv := dv) (P := P) (o := o) rfl rfl rfl (hC ▸ hr)
        exact ⟨es, n, pre, post, e, h1, h2, h3, h4, fun es' n' h' => hC ▸ h5 es' n' h'⟩) (Nat.le_trans (show (putF "token" (.v dv) (lexFields P o)).length ≤ 20 from Nat.le_refl _) (by decide)) (lex_set1 Pm) (lex_set2 Pm) (lex_set4 Pm) (lex_get2 Pm) hv hq
    case h_2 =>
      split at ha
      case h_1 e =>
        cases ha; cases eq_of_beq e
        exact set_field (o' := { o with lineno := dv }) R h (fun Rl hr => by
          obtain ⟨es, n, pre, post, e, h1, h2, h3, h4, h5⟩ := lex_turn (o' := { o with lineno := dv }) (name := "lineno") (dv := dv) (P := P) (o := o) rfl rfl rfl (hC ▸ hr)
          exact ⟨es, n, pre, post, e, h1, h2, h3, h4, fun es' n' h' => hC ▸ h5 es' n' h'⟩) (Nat.le_trans (show (putF "lineno" (.v dv) (lexFields P o)).length ≤ 20 from Nat.le_refl _) (by decide)) (lex_set1 Pm) (lex_set2 Pm) (lex_set5 Pm) (lex_get2 Pm) hv hq
      case h_2 => cases ha
noncomputable def lexAttr (P : LP) (o : LO) (a : Str) : Option V := match (lexFields P o).lookup a with | some (.v d) => some d | _ => (match a == "punctuation_chars" with | true => some (.str (S P.M)) | false => none)
theorem lex_getA {C : Cx LO} {P : LP} (hC : C.Rep = lexRep P) {d : Nat} (R : Rim (K02 Pm) p loose mean mg mb A₀ base outer A env C.h₀ C.L (d + 1)) {o : LO} {a : Str} {ρ : Loc} {fz : Led} {s : Shared} {dv : V} {expr : Bool} {Q E : Value → Shared → Prop}
    (ha : lexAttr P o a = some dv) (h : At C o ρ fz s) (hq : ∀ fz' s' v, Sub fz fz' → At C o ρ fz' s' → VR fz' dv v → Q v s') : wpAny (model prog w) A (getAttr (.ref P.lx) a expr) Q E s := by
  unfold lexAttr at ha
  split at ha
  case h_1 d' hl =>
    cases ha
    exact get_field R h (fun Rl hr => lex_here (hC ▸ hr)) hl (lex_get1 Pm) (lex_get2 Pm) (lex_find Pm hl) fun v' s' h' x => hq fz s' v' (fun _ h => h) h' x
  case h_2 =>
    split at ha
    case h_1 e => cases ha; cases eq_of_beq e; exact get_punct hC R h hq
    case h_2 => cases ha
theorem self_at {C : Cx LO} {d : Nat} (R : Rim (K02 Pm) p loose mean mg mb A₀ base outer A env C.h₀ C.L d) {a : Addr} (hself : ((ofString "self"), Value.ref a) ∈ C.refs) (hk : env.kindOf "self" = some .local) {o : LO} {ρ : Loc} {fz : Led} {s : Shared} {q : Pos} {Q E : Value → Shared → Prop} (h : At C o ρ fz s) (hq : Q (.ref a) s) :
    wpAny (model prog w) A (eval (.Name (ofString "self") q) env) Q E s := by
  obtain ⟨h', tk, m, Rl, rfl, F, N, rp, ap, lc, rf⟩ := id h
  exact wpAny_Name (wpAny_loadName_local R.hk hk (by rw [R.hl]; exact F.ns) (rf _ hself) hq) (by decide : ((ofString "self") == ("__debug__" : Str)) = false)
theorem lex_ref {C : Cx LO} {P : LP} (hC : C.Rep = lexRep P) {d : Nat} (R : Rim (K02 Pm) p loose mean mg mb A₀ base outer A env C.h₀ C.L d) (hself : ((ofString "self"), Value.ref P.lx) ∈ C.refs) (hk : env.kindOf "self" = some .local) {o : LO} {ρ : Loc} {fz : Led} {s : Shared} {q q' : Pos} {f : Str} {a : Addr} {Q E : Value → Shared → Prop}
    (hf : ∀ o, (lexFields P o).lookup f = some (.r a)) (h : At C o ρ fz s) (hq : ∀ s', At C o ρ fz s' → Q (.ref a) s') :
    wpAny (model prog w) A (eval (.Attribute (.Name (ofString "self") q) f q') env) Q E s := by
  refine Attribute_name (self_at R hself hk h ?_)
  exact get_field R h (fun Rl hr => lex_here (hC ▸ hr)) (hf o) (lex_get1 Pm) (lex_get2 Pm) (lex_find Pm (hf o)) fun v' s' h' x => by cases x; exact hq s' h'
theorem lex_raise {C : Cx LO} {d : Nat} (R : Rim (K02 Pm) p loose mean mg mb A₀ base outer A env C.h₀ C.L d) (hv : env.kindOf "ValueError" = some .globalImplicit) {o : LO} {ρ : Loc} {k kk : Nat} {q1 q2 q3 q4 : Pos} {txt : Str} (hx : txt = xtext k) :
    StOk prog w A C env (XF base C.h₀ outer env C.L) o ρ (.Raise (some (.Call (.Name (ofString "ValueError") q1) [.Constant (.str txt) kk q2] [] q3)) none q4) (o, ρ, .exc k) := by
  subst hx
  intro fz s Q E h hq
  refine Raise_madeB F.excCall_ValueError F.excRaise_ValueError R.hh (blt_name R h (v := .type "ValueError") (none_ValueError Pm) (by kernel_rfl) (by decide) hv (by decide) ⟨rfl, ?_⟩)
  refine (evs_cons rfl (ev_const rfl) evs_nil) q3 fz s _ E h fun fz₁ s₁ vs s1 h1 x1 => ?_
  cases x1 with
  | cons v1 r1 =>
    cases r1; cases v1
    refine ⟨by rw [sizeLine_eq]; simp, fun h' e hm => ?_⟩
    obtain ⟨m, news, F, N⟩ := h1.now'
    exact hq fz₁ s₁ s1 h1 ⟨m, F⟩ e 0 _ h' (.inl hm.of)
end
end
section
variable {prog : Program} {w : World} {Pm : Params} {p : Program} {loose : List Str} {mean : ExcName → Option Value} {mg mb : Str → Option Value} {A₀ : Around} {base : Heap} {outer : List Env} {A : Around} {env : Env}
theorem lex_readline {C : Cx LO} {P : LP} (hC : C.Rep = lexRep P) (hT : P.T.length ≤ 100) {d : Nat} (R : Rim (K02 Pm) p loose mean mg mb A₀ base outer A env C.h₀ C.L (d + 4)) (hself : ((ofString "self"), Value.ref P.lx) ∈ C.refs) (hk : env.kindOf "self" = some .local) {X : Nat → Led → Shared → (Value → Shared → Prop) → Prop} {o : LO} {ρ : Loc} {q1 q2 q3 q4 q5 : Pos} (hl : (q3.endLine == q4.line) = true) (hp : posOk P o.pos = true) :
    StOk prog w A C env X o ρ (.Expr (.Call (.Attribute (.Attribute (.Name (ofString "self") q1) (ofString "instream") q2) (ofString "readline") q3) [] [] q4) q5) ({ o with pos := .int ((pastLine P.T (natOf o.pos) : Nat) : Int) }, ρ, .next) := by
  intro fz s Q E h hq
  refine wpAny_Expr ?_ R.hi rfl
  obtain ⟨k, hk1, hk2⟩ : ∃ k : Nat, o.pos = .int (k : Int) ∧ k ≤ P.T.length := by
    revert hp
    cases e : o.pos with
    | int i =>
      intro hp
      simp only [posOk, Bool.and_eq_true, decide_eq_true_eq] at hp
      exact ⟨i.toNat, by congr 1; lia, by lia⟩
    | _ => intro hp; cases hp
  refine MethodCall_ (pl := _) (lex_ref (P := P) hC R hself hk (f := ofString "instream") (a := P.io) (fun o => rfl) h fun s₁ h₁ => ?_) (meth_eqA (by rfl) (by simp) hl)
  obtain ⟨hp, tk, mm, Rl, rfl, F, N, rp, ap, lc, rf⟩ := id h₁
  obtain ⟨es, n, h1, h2, h3⟩ := io_here (hC ▸ rp)
  have I : InstAt hp P.io (instObj 587 P.id) 587 (some (dictOf es n)) := ⟨(N _ (List.mem_append_left _ h1)).1, rfl, rfl, (N _ (List.mem_append_left _ h2)).1⟩
  refine method_inst (s := { C.s₀ with heap := hp, toks := tk }) F R.X I (io_get1 Pm) (readline_1 Pm) (by kernel_rfl) (fs_none h3 (by rfl)) ?_
  refine callWith_K0 (K := K02 Pm) (first := [.ref P.io]) (R.knows F) (by kernel_rfl) ?_
  refine readline_call hC hT R hk1 hk2 h₁ fun fz₂ s₂ v s2 h2 x2 => ?_
  cases x2
  have : natOf o.pos = k := by rw [hk1]; rfl
  rw [this] at hq
  exact hq fz₂ s₂ s2 h2
theorem dq_turn {C : Cx LO} {P : LP} (hC : C.Rep = lexRep P) {o o' : LO} {ρ : Loc} {fz : Led} {s : Shared} (h : At C o ρ fz s) (e1 : lexFields P o = lexFields P o') (e2 : ioFields P o = ioFields P o') :
    ∃ st vs, s.heap.get? P.pc = some (dqObj st vs) ∧ DatAll fz vs (o.pbs.map fun c => .str (S [c])) ∧ ∀ h' st' vs' tk, Heap.SameBut P.pc s.heap h' → h'.get? P.pc = some (dqObj st' vs') → DatAll fz vs' (o'.pbs.map fun c => .str (S [c])) → At C o' ρ fz { s with heap := h', toks := tk } := by
  obtain ⟨hp, tk, m, Rl, rfl, F, N, rp, ap, lc, rf⟩ := id h
  obtain ⟨es, n, es2, n2, s1, s2, s3, vs, rfl, h1, h2, h3, h4⟩ := (hC ▸ rp : lexRep P o fz Rl)
  have k := keys_split (pre := lexPre P es n es2 n2 s1 s2) (a := P.pc) (ob := dqObj s3 vs) (post := []) h4
  refine ⟨s3, vs, (N _ (List.mem_append_left _ (List.mem_append_right _ (.head _)))).1, h3, fun h' st' vs' tk' hs ho hv => ?_⟩
  obtain ⟨F', N', ap'⟩ := led_turn F N ap k.1 k.2 hs ho
  exact ⟨h', tk', m, _, rfl, F', N', hC ▸ ⟨es, n, es2, n2, s1, s2, st', vs', rfl, e1 ▸ h1, e2 ▸ h2, hv, h4⟩, ap', lc, rf⟩
theorem datAll_len {fz : Led} {vs : List Value} {ds : List V} (h : DatAll fz vs ds) : vs.length = ds.length := h.length
theorem lex_append {C : Cx LO} {P : LP} (hC : C.Rep = lexRep P) {d : Nat} (R : Rim (K02 Pm) p loose mean mg mb A₀ base outer A env C.h₀ C.L d) (hself : ((ofString "self"), Value.ref P.lx) ∈ C.refs) (hk : env.kindOf "self" = some .local) {X : Nat → Led → Shared → (Value → Shared → Prop) → Prop} {o : LO} {ρ : Loc} {q1 q2 q3 q4 q5 q6 : Pos} {y : Str} {names : List Str} {I : Orc} (KI : OrcOk prog w A C o env I) (hy : I.names.contains y = true) (hd : (y != "__debug__") = true) (hl : (q3.endLine == q5.line) = true) {x : Str} (hx : ρ.lookup y = some (.str x)) (h1 : x.cps.toList.length = 1) (hz : o.pbs.length ≤ 800) :
    StOk prog w A C env X o ρ (.Expr (.Call (.Attribute (.Attribute (.Name (ofString "self") q1) (ofString "_pushback_chars") q2) (ofString "append") q3) [.Name y q4] [] q5) q6) ({ o with pbs := o.pbs ++ x.cps.toList }, ρ, .next) := by
  intro fz s Q E h hq
  refine wpAny_Expr ?_ R.hi rfl
  refine MethodCall_ (pl := _) (lex_ref (P := P) hC R hself hk (f := ofString "_pushback_chars") (a := P.pc) (fun o => rfl) h fun s₁ h₁ => ?_) (meth_eqA (by rfl) (by simp) hl)
  obtain ⟨st, vs, g1, g2, _⟩ := dq_turn (o' := o) hC h₁ rfl rfl
  refine dq_getAppend g1 ?_
  refine callWith_more (first := [.ref P.pc]) (by rfl) ((evs_cons (by rfl) (ev_name KI hy hd hx) evs_nil) q5 fz s₁ _ E h₁ fun fz₂ s₂ ws s2 h2 x2 => ?_)
  obtain ⟨st', vs', g1', g2', g3'⟩ := dq_turn (o' := { o with pbs := o.pbs ++ x.cps.toList }) hC h2 rfl rfl
  cases x2 with
  | cons v1 r1 =>
    cases r1; cases v1
    have hlen := datAll_len g2'
    refine dq_append g1' (by rw [hlen, List.length_map]; lia) fun h' hs ho => ?_
    refine hq fz₂ _ s2 (g3' h' _ _ s₂.toks hs ho ?_)
    obtain ⟨c, hc⟩ : ∃ c, x.cps.toList = [c] := List.length_eq_one_iff.mp h1
    have hx' : x = S [c] := by rw [S_of x, hc]
    rw [hc, List.map_append]
    exact datAll_app g2' (.cons (by rw [hx']; exact .str _ _) .nil)
end
section
variable {prog : Program} {w : World} {Pm : Params} {p : Program} {loose : List Str} {mean : ExcName → Option Value} {mg mb : Str → Option Value} {A₀ : Around} {base : Heap} {outer : List Env} {A : Around}
theorem rN_local (L : Addr) (cd : Value) : ∀ x ∈ rN, (rE L cd).kindOf x = some .local := by
  have : ∀ x ∈ rN, (rE 0 .none).kindOf x = some .local := by decide +kernel
  exact this
theorem lex_ok {C : Cx LO} {P : LP} (hC : C.Rep = lexRep P) (hT : P.T.length ≤ 100) {d : Nat} {cd : Value} (R : Rim (K02 Pm) p loose mean mg mb A₀ base outer A (rE C.L cd) C.h₀ C.L (d + 4)) (hself : C.refs = [((ofString "self"), Value.ref P.lx)]) :
    IfcOk prog w A C (rE C.L cd) (rI P) (XF base C.h₀ outer (rE C.L cd) C.L) P.lx :=
  have hk : (rE C.L cd).kindOf "self" = some .local := by kernel_rfl
  have hs : ((ofString "self"), Value.ref P.lx) ∈ C.refs := by rw [hself]; exact .head _
  have orc : ∀ o, OrcOk prog w A C o (rE C.L cd) ((rI P).orc o) := fun o => {
    fn := R.hk
    loc := R.hl
    names := rN_local _ _
    attr := fun a v h ρ p1 p2 fz s Q E hA hq => by
      have h' : lexAttr P o a = some v := h
      exact Attribute_name (self_at R hs hk hA (lex_getA hC R h' hA fun fz' s' v' sb h1 x1 => hq fz' s' v' sb h1 x1))
    call := fun f ds d h => by cases h }
  { orc := orc
    hh := R.hh
    inter := R.hi
    off := fun q hq => by rw [hself] at hq; simp only [List.mem_singleton] at hq; subst hq; exact (show rN.contains (ofString "self") = false by decide +kernel)
    self := .inl hs
    selfK := .inl ⟨hk, (by decide : ((ofString "self") == ("__debug__" : Str)) = false)⟩
    get := fun o a v h ρ fz s Q E hA hq => by
      have h' : lexAttr P o a = some v := h
      exact lex_getA hC R h' hA hq
    set := fun o a dv o' h ρ fz s v Q E hA hv hq => lex_setA hC R h hA hv hq
    push := fun o x d o' h => by cases h
    give := fun o x o' d h => by cases h
    prim := fun o ρ st r h => by
      obtain ⟨q, h1, h⟩ := opt_of (show opt (vRaise st) _ none = some r from h)
      obtain ⟨h2, h⟩ := gate_of h
      rw [vRaise_is h1, eq_of_beq h2]
      cases h3 : q.2.2.1 == ("No closing quotation" : Str) with
      | true =>
        rw [h3] at h
        rw [eq_of_beq h3, ← sj h]
        exact lex_raise R (by kernel_rfl) (by decide +kernel)
      | false =>
        rw [h3] at h
        obtain ⟨h4, h⟩ := gate_of h
        rw [eq_of_beq h4, ← sj h]
        exact lex_raise R (by kernel_rfl) (by decide +kernel)
    primB := fun o ρ st r h => by
      obtain ⟨⟨x, q1, a, q2, m, q3, args, q4, q5⟩, h1, h⟩ := opt_of (show opt (vAct st) _ none = some (true, r) from h)
      obtain ⟨h2, h⟩ := gate_of h
      rw [Bool.and_eq_true] at h2
      rw [vAct_is h1]
      dsimp only
      rw [eq_of_beq h2.1]
      rcases opt_or h with ⟨e, h3, h⟩ | ⟨_, h⟩
      · obtain ⟨y, h4, h⟩ := opt_of h
        obtain ⟨h5, h⟩ := gate_of h
        obtain ⟨d, h6, h⟩ := opt_of h
        obtain ⟨s, h7, h⟩ := opt_of h
        obtain ⟨g1, e1⟩ := Prod.mk.inj (sj h)
        simp only [Bool.and_eq_true, decide_eq_true_eq] at g1 h5
        obtain ⟨q6, e2⟩ := nameOf1_is h4
        rw [one_is h3, e2, eq_of_beq h5.1.1.1, eq_of_beq h5.1.1.2, ← e1]
        rw [strOf_is h7] at h6
        exact lex_append (names := rN) hC R hs hk (orc o) h5.1.2 h5.2 h2.2 h6 g1.1 g1.2
      · obtain ⟨h5, h⟩ := gate_of h
        obtain ⟨g1, e1⟩ := Prod.mk.inj (sj h)
        simp only [Bool.and_eq_true] at h5
        rw [eq_of_beq h5.1.1, eq_of_beq h5.1.2, ← e1, List.isEmpty_iff.mp h5.2]
        exact lex_readline hC hT R hs hk h2.2 g1 }
end
noncomputable def nextIn (T : List Nat) (s : RS) : List Nat × RS := match s.pb with
  | [] => ((readSt T s.pos).2, { s with pos := (readSt T s.pos).1 })
  | c :: _ => ([c], { s with pb := [] })
noncomputable abbrev rA1 : PySem.Expr := Expr.Attribute (Expr.Name (ofString "self") ⟨571, 15, 571, 19⟩) (ofString "punctuation_chars") ⟨571, 15, 571, 37⟩
noncomputable abbrev rA2 : PySem.Expr := Expr.Attribute (Expr.Name (ofString "self") ⟨571, 42, 571, 46⟩) (ofString "_pushback_chars") ⟨571, 42, 571, 62⟩
noncomputable abbrev rS1 : Stmt := Stmt.Assign [Expr.Name (ofString "nextchar") ⟨572, 16, 572, 24⟩] (Expr.Call (Expr.Attribute (Expr.Attribute (Expr.Name (ofString "self") ⟨572, 27, 572, 31⟩) (ofString "_pushback_chars") ⟨572, 27, 572, 47⟩) (ofString "pop") ⟨572, 27, 572, 51⟩) [] [] ⟨572, 27, 572, 53⟩) ⟨572, 16, 572, 53⟩
noncomputable abbrev rS2 : Stmt := Stmt.Assign [Expr.Name (ofString "nextchar") ⟨574, 16, 574, 24⟩] (Expr.Call (Expr.Attribute (Expr.Attribute (Expr.Name (ofString "self") ⟨574, 27, 574, 31⟩) (ofString "instream") ⟨574, 27, 574, 40⟩) (ofString "read") ⟨574, 27, 574, 45⟩) [Expr.Constant (Const.int 1) 0 ⟨574, 46, 574, 47⟩] [] ⟨574, 27, 574, 48⟩) ⟨574, 16, 574, 48⟩
theorem rW_0 : hdS (wbody rW) 0 = Stmt.If (Expr.BoolOp BoolOp.And [rA1, rA2] ⟨571, 15, 571, 62⟩) [rS1] [rS2] ⟨571, 12, 574, 48⟩ := by kernel_rfl
section
variable {prog : Program} {w : World} {Pm : Params} {p : Program} {loose : List Str} {mean : ExcName → Option Value} {mg mb : Str → Option Value} {A₀ : Around} {base : Heap} {outer : List Env} {A : Around}
theorem emp_len {α β : Type} : ∀ (a : List α) (b : List β), a.length = b.length → a.isEmpty = b.isEmpty
  | [], [], _ => rfl
  | _ :: _, _ :: _, _ => rfl
  | [], _ :: _, h => by cases h
  | _ :: _, [], h => by cases h
theorem callWith_b0 {A : Around} {E : Value → Shared → Prop} {s : Shared} {pos : Pos} {id : String} {first : List Value} {env : Env} {Q : Value → Shared → Prop} (h : wpAny (model prog w) A (call (.builtin id) first) Q E s) :
    wpAny (model prog w) A (callWith pos (.builtin id) first (backTo pos (starEach [] env)) []) Q E s := callWith_method0 h
theorem bl_one {A : Around} {O : Type} {C : Cx O} {env : Env} {X : Nat → Led → Shared → (Value → Shared → Prop) → Prop} {o : O} {ρ : Loc} {st : Stmt} {r : O × Loc × Fl} (h : StOk prog w A C env X o ρ st r) : BlOk prog w A C env X o ρ [st] r := by
  obtain ⟨o', ρ', fl⟩ := r
  cases fl with
  | next => exact bl_next h bl_nil
  | brk => exact bl_stop h (fun _ _ e => by cases e)
  | cont => exact bl_stop h (fun _ _ e => by cases e)
  | ret d => exact bl_stop h (fun _ _ e => by cases e)
  | exc k => exact bl_stop h (fun _ _ e => by cases e)
theorem lex_pop {C : Cx LO} {P : LP} (hC : C.Rep = lexRep P) (hT : P.T.length ≤ 100) {d : Nat} {cd : Value} (R : Rim (K02 Pm) p loose mean mg mb A₀ base outer A (rE C.L cd) C.h₀ C.L (d + 4)) (hself : C.refs = [((ofString "self"), Value.ref P.lx)]) {s : RS} {c : Nat} (hp : s.pb = [c]) {ρ : Loc} :
    StOk prog w A C (rE C.L cd) (XF base C.h₀ outer (rE C.L cd) C.L) (loOf s) ρ rS1 (loOf { s with pb := [] }, ("nextchar", .str (S [c])) :: ρ, .next) := by
  intro fz st Q E h hq
  have hk : (rE C.L cd).kindOf "self" = some .local := by kernel_rfl
  have hs : ((ofString "self"), Value.ref P.lx) ∈ C.refs := by rw [hself]; exact .head _
  have IK := lex_ok (prog := prog) (w := w) hC hT R hself
  refine wpAny_Assign_Name (MethodCall_ (pl := _) (lex_ref (P := P) hC R hs hk (f := ofString "_pushback_chars") (a := P.pc) (fun o => rfl) h fun s₁ h₁ => ?_) (meth_eqA (by rfl) (by simp) (by rfl))) (swap_off (by rfl))
  obtain ⟨st', vs, g1, g2, g3⟩ := dq_turn (o' := loOf { s with pb := [] }) hC h₁ rfl rfl
  have g2' : DatAll fz vs [.str (S [c])] := by
    have : (loOf s).pbs = [c] := hp
    rw [this] at g2; exact g2
  cases g2' with
  | @cons v vs' _ _ hv hr =>
    cases hr
    refine dq_getPop g1 (callWith_b0 ?_)
    refine dq_pop (items := []) (x := v) g1 (by simp) fun h' hs' ho => ?_
    exact store_ok IK (g3 h' _ _ s₁.toks hs' ho .nil) (show rN.contains (ofString "nextchar") = true by decide +kernel) hv fun s₃ h3 => hq fz s₃ (fun _ h => h) h3
theorem lex_read {C : Cx LO} {P : LP} (hC : C.Rep = lexRep P) (hT : P.T.length ≤ 100) {d : Nat} {cd : Value} (R : Rim (K02 Pm) p loose mean mg mb A₀ base outer A (rE C.L cd) C.h₀ C.L (d + 4)) (hself : C.refs = [((ofString "self"), Value.ref P.lx)]) {s : RS} {ρ : Loc} :
    StOk prog w A C (rE C.L cd) (XF base C.h₀ outer (rE C.L cd) C.L) (loOf s) ρ rS2 (loOf { s with pos := (readSt P.T s.pos).1 }, ("nextchar", .str (S (readSt P.T s.pos).2)) :: ρ, .next) := by
  intro fz st Q E h hq
  have hk : (rE C.L cd).kindOf "self" = some .local := by kernel_rfl
  have hs : ((ofString "self"), Value.ref P.lx) ∈ C.refs := by rw [hself]; exact .head _
  have IK := lex_ok (prog := prog) (w := w) hC hT R hself
  refine wpAny_Assign_Name (MethodCall_ (pl := _) (lex_ref (P := P) hC R hs hk (f := ofString "instream") (a := P.io) (fun o => rfl) h fun s₁ h₁ => ?_) (meth_eqA (by rfl) (by simp) (by rfl))) (swap_off (by rfl))
  refine meth_on R h₁ (fun Rl hr => io_here (hC ▸ hr)) (by rfl) (io_get1 Pm) (read_1 Pm) (read_2 Pm) (by kernel_rfl) rfl rfl ?_
  refine (evs_cons rfl (ev_const rfl) evs_nil) _ fz _ _ E h₁ fun fz₁ s₂ vs s2 h2 x2 => ?_
  cases x2 with
  | cons v1 r1 =>
    cases r1; cases v1
    exact ⟨⟨_, _, _, h2⟩, read_call hC hT R (k := s.pos) rfl h2 fun fz₃ s₃ v s3 h3 x3 => store_ok IK h3 (show rN.contains (ofString "nextchar") = true by decide +kernel) x3 fun s₄ h4 => hq fz₃ s₄ (fun p hp => s3 p (s2 p hp)) h4⟩
theorem lex_first {C : Cx LO} {P : LP} (hC : C.Rep = lexRep P) (hT : P.T.length ≤ 100) {d : Nat} {cd : Value} (R : Rim (K02 Pm) p loose mean mg mb A₀ base outer A (rE C.L cd) C.h₀ C.L (d + 4)) (hself : C.refs = [((ofString "self"), Value.ref P.lx)]) {s : RS} (hs : Small P s) (hp : s.pb.length ≤ 1) {ρ : Loc} :
    StOk prog w A C (rE C.L cd) (XF base C.h₀ outer (rE C.L cd) C.L) (loOf s) ρ (hdS (wbody rW) 0) (loOf (nextIn P.T s).2, ("nextchar", .str (S (nextIn P.T s).1)) :: ρ, .next) := by
  have hk : (rE C.L cd).kindOf "self" = some .local := by kernel_rfl
  have hs' : ((ofString "self"), Value.ref P.lx) ∈ C.refs := by rw [hself]; exact .head _
  have IK := lex_ok (prog := prog) (w := w) hC hT R hself
  have okm : strOk (S P.M) = true := strOk_S (by have := hs.ml; lia)
  have t1 : TrOk prog w A C (loOf s) (rE C.L cd) ρ rA1 true := by
    refine tr_plain (v := .str (S P.M)) ((IK.orc (loOf s)).attr (ofString "punctuation_chars") _ rfl ρ _ _) ?_ rfl
    unfold truthV
    simp only [okm, if_true, nz_S]
    cases e : P.M with
    | nil => exact absurd e hs.ml1
    | cons => rfl
  have t2 : TrOk prog w A C (loOf s) (rE C.L cd) ρ rA2 (!s.pb.isEmpty) := by
    intro fz st Q E h hq
    refine isTrue_plain (lex_ref (P := P) hC R hs' hk (f := ofString "_pushback_chars") (a := P.pc) (fun o => rfl) h fun s₁ h₁ => ?_) rfl
    obtain ⟨st', vs, g1, g2, g3⟩ := dq_turn (o' := loOf s) hC h₁ rfl rfl
    have hl := datAll_len g2
    rw [List.length_map] at hl
    have hl : vs.length = s.pb.length := hl
    refine dq_truthy g1 (by lia) ?_
    have e : vs.isEmpty = s.pb.isEmpty := by
      exact emp_len vs s.pb hl
    rw [e]
    exact hq fz _ (fun _ h => h) (h₁.toks _)
  rw [rW_0]
  refine st_if (c := !s.pb.isEmpty) (tr_and t1 ?_) ?_
  · exact tr_one t2
  · unfold nextIn
    cases e : s.pb with
    | nil =>
      simp only [List.isEmpty_nil, Bool.not_true, Bool.false_eq_true, if_false]
      have := lex_read (prog := prog) (w := w) (ρ := ρ) (s := s) hC hT R hself
      rw [e] at this
      exact bl_one this
    | cons c r =>
      have : r = [] := by rw [e] at hp; simp at hp; exact List.eq_nil_of_length_eq_zero (by simpa using hp)
      subst this
      simp only [List.isEmpty_cons, Bool.not_false, if_true]
      exact bl_one (lex_pop hC hT R hself e)
end
noncomputable def lined (cs : List Nat) (s : RS) : RS := if cs = [10] then { s with ln := s.ln + 1 } else s
noncomputable def lexTurn (T M W : List Nat) (posix : Bool) (s : RS) : ROut := lexChain T M W posix (lined (nextIn T s).1 (nextIn T s).2) (nextIn T s).1
noncomputable def rdLoop (T M W : List Nat) (posix : Bool) : Nat → RS → Option ROut
  | 0, _ => none
  | n + 1, s => match lexTurn T M W posix s with
    | .go s' => rdLoop T M W posix n s'
    | x => some x
structure LInv (T : List Nat) (posix : Bool) (s : RS) : Prop where
  st : s.st ∈ [0, 32, 97, 99, 39, 34, 92]
  esc : s.st = 92 → posix = true ∧ (s.esc = 97 ∨ s.esc = 34)
  pos : s.pos ≤ T.length
  pb : s.pb.length ≤ 1
  pbs : s.pb ≠ [] → s.st = 32
  tok : s.tok.length + 2 * s.pb.length ≤ 2 * s.pos
theorem pastLine_le {T : List Nat} {k : Nat} (h : k ≤ T.length) : k ≤ pastLine T k ∧ pastLine T k ≤ T.length := by
  unfold pastLine
  rcases firstAt_bd 10 (T.drop k) k with e | ⟨j, e, hj⟩
  · rw [e, if_pos (by decide)]; exact ⟨h, Nat.le_refl _⟩
  · rw [List.length_drop] at hj
    rw [e, if_neg (by lia)]; lia
structure LMid (T : List Nat) (posix : Bool) (cs : List Nat) (s : RS) : Prop where
  st : s.st ∈ [0, 32, 97, 99, 39, 34, 92]
  esc : s.st = 92 → posix = true ∧ (s.esc = 97 ∨ s.esc = 34)
  pos : s.pos ≤ T.length
  pb : s.pb = []
  one : cs.length ≤ 1
  tok : s.tok.length + 2 * cs.length ≤ 2 * s.pos
noncomputable def lMeas (T : List Nat) (s : RS) : Nat := 2 * (T.length - s.pos) + s.pb.length
theorem nextIn_ok {T : List Nat} {posix : Bool} {s : RS} (h : LInv T posix s) : LMid T posix (nextIn T s).1 (lined (nextIn T s).1 (nextIn T s).2) ∧
    (nextIn T s).2.st = s.st ∧ ((nextIn T s).1 = [] → s.pos = T.length ∧ s.pb = [] ∧ (nextIn T s).2 = s) ∧ 2 * (T.length - (nextIn T s).2.pos) + (nextIn T s).1.length ≤ lMeas T s := by
  have hl : ∀ cs (s : RS), (lined cs s).st = s.st ∧ (lined cs s).esc = s.esc ∧ (lined cs s).pos = s.pos ∧ (lined cs s).pb = s.pb ∧ (lined cs s).tok = s.tok := by
    intro cs s; unfold lined; split <;> exact ⟨rfl, rfl, rfl, rfl, rfl⟩
  obtain ⟨a1, a2, a3, a4, a5⟩ := hl (nextIn T s).1 (nextIn T s).2
  have key : (nextIn T s).2.st = s.st ∧ (nextIn T s).2.esc = s.esc ∧ (nextIn T s).2.tok = s.tok ∧ (nextIn T s).2.pos ≤ T.length ∧ (nextIn T s).2.pb = [] ∧ (nextIn T s).1.length ≤ 1 ∧ s.tok.length + 2 * (nextIn T s).1.length ≤ 2 * (nextIn T s).2.pos ∧
      ((nextIn T s).1 = [] → s.pos = T.length ∧ s.pb = [] ∧ (nextIn T s).2 = s) ∧ 2 * (T.length - (nextIn T s).2.pos) + (nextIn T s).1.length ≤ lMeas T s := by
    have h1 := h.pos; have h2 := h.tok; have h3 := h.pb
    unfold lMeas
    cases e : s.pb with
    | nil =>
      rw [e] at h2
      simp only [List.length_nil] at h2
      by_cases hk : s.pos < T.length
      · have e1 : nextIn T s = ([T[s.pos]], { s with pos := s.pos + 1 }) := by unfold nextIn readSt; rw [e]; simp only [dif_pos hk]
        rw [e1]
        refine ⟨rfl, rfl, rfl, by show s.pos + 1 ≤ _; lia, e, Nat.le_refl _, by show s.tok.length + 2 * 1 ≤ 2 * (s.pos + 1); lia, fun q => (by cases q), by show 2 * (T.length - (s.pos + 1)) + 1 ≤ 2 * (T.length - s.pos) + 0; lia⟩
      · have e1 : nextIn T s = ([], s) := by unfold nextIn readSt; rw [e]; simp only [dif_neg hk]; rw [← e]
        rw [e1]
        exact ⟨rfl, rfl, rfl, h1, e, by simp, by show s.tok.length + 2 * 0 ≤ 2 * s.pos; lia, fun _ => ⟨by lia, rfl, rfl⟩, Nat.le_refl _⟩
    | cons c r =>
      rw [e] at h2 h3
      simp only [List.length_cons] at h2 h3
      have e1 : nextIn T s = ([c], { s with pb := [] }) := by unfold nextIn; rw [e]
      rw [e1]
      exact ⟨rfl, rfl, rfl, h1, rfl, Nat.le_refl _, by show s.tok.length + 2 * 1 ≤ 2 * s.pos; lia, fun q => (by cases q), by show 2 * (T.length - s.pos) + 1 ≤ 2 * (T.length - s.pos) + (r.length + 1); lia⟩
  obtain ⟨k1, k2, k3, k4, k5, k6, k7, k8, k9⟩ := key
  refine ⟨⟨?_, ?_, ?_, ?_, k6, ?_⟩, k1, k8, k9⟩
  · rw [a1, k1]; exact h.st
  · rw [a1, a2, k1, k2]; exact h.esc
  · rw [a3]; exact k4
  · rw [a4]; exact k5
  · rw [a3, a5, k3]; exact k7
noncomputable def ROk (T : List Nat) (posix : Bool) (n : Nat) : ROut → Prop
  | .go s => LInv T posix s ∧ lMeas T s < n
  | .brk s => LInv T posix s ∧ lMeas T s ≤ n
  | .exc _ s => s.tok.length ≤ 2 * T.length
theorem stopIf_ok {T : List Nat} {posix : Bool} {n : Nat} {b : Bool} {s : RS} (h : LInv T posix s ∧ lMeas T s < n) : ROk T posix n (stopIf b s) := by
  cases b with
  | true => exact ⟨h.1, Nat.le_of_lt h.2⟩
  | false => exact h
theorem rok_ite {T : List Nat} {posix : Bool} {n : Nat} {c : Prop} [Decidable c] {a b : ROut} (ha : c → ROk T posix n a) (hb : ¬c → ROk T posix n b) : ROk T posix n (if c then a else b) := by
  by_cases h : c
  · rw [if_pos h]; exact ha h
  · rw [if_neg h]; exact hb h
abbrev stOk (n : Nat) : Prop := n ∈ [0, 32, 97, 99, 39, 34, 92]
section
variable {T : List Nat} {posix : Bool} {n st ln pos esc : Nat} {tok : List Nat} {quoted b : Bool}
theorem r_inv (h1 : stOk st) (h2 : st = 92 → posix = true ∧ (esc = 97 ∨ esc = 34)) (h3 : pos ≤ T.length) (h6 : tok.length ≤ 2 * pos) : LInv T posix ⟨st, tok, ln, pos, [], quoted, esc⟩ :=
  ⟨h1, h2, h3, Nat.zero_le _, fun h => absurd rfl h, h6⟩
theorem rgo (h1 : stOk st) (h2 : st = 92 → posix = true ∧ (esc = 97 ∨ esc = 34)) (h3 : pos ≤ T.length) (h6 : tok.length ≤ 2 * pos) (hn : 2 * (T.length - pos) < n) : ROk T posix n (.go ⟨st, tok, ln, pos, [], quoted, esc⟩) := ⟨r_inv h1 h2 h3 h6, hn⟩
theorem rbrk (h1 : stOk st) (h2 : st = 92 → posix = true ∧ (esc = 97 ∨ esc = 34)) (h3 : pos ≤ T.length) (h6 : tok.length ≤ 2 * pos) (hn : 2 * (T.length - pos) ≤ n) : ROk T posix n (.brk ⟨st, tok, ln, pos, [], quoted, esc⟩) := ⟨r_inv h1 h2 h3 h6, hn⟩
theorem rstop (h1 : stOk st) (h2 : st = 92 → posix = true ∧ (esc = 97 ∨ esc = 34)) (h3 : pos ≤ T.length) (h6 : tok.length ≤ 2 * pos) (hn : 2 * (T.length - pos) < n) : ROk T posix n (stopIf b ⟨st, tok, ln, pos, [], quoted, esc⟩) := stopIf_ok ⟨r_inv h1 h2 h3 h6, hn⟩
theorem r_inv1 {c : Nat} (h3 : pos ≤ T.length) (h6 : tok.length + 2 ≤ 2 * pos) : LInv T posix ⟨32, tok, ln, pos, [c], quoted, esc⟩ :=
  ⟨.tail _ (.head _), fun e => (by cases e), h3, Nat.le_refl _, fun _ => rfl, h6⟩
theorem tok_app {c : Nat} (h : tok.length + 2 ≤ 2 * pos) : (tok ++ [c]).length ≤ 2 * pos := by rw [List.length_append]; exact Nat.le_trans (Nat.add_le_add_left (by decide : 1 ≤ 2) _) h
theorem n_lt {a : Nat} : 2 * a < 2 * a + 2 * 1 := by lia
theorem n_lt' {a b : Nat} (h : a ≤ b) : 2 * (n - b) < 2 * (n - a) + 2 * 1 := by lia
theorem st_q {c : Nat} (h : c ∈ [39, 34]) : stOk c ∧ c ≠ 92 := by
  rcases List.mem_cons.mp h with rfl | h
  · exact ⟨.tail _ (.tail _ (.tail _ (.tail _ (.head _)))), by decide⟩
  · obtain rfl := List.mem_singleton.mp h
    exact ⟨.tail _ (.tail _ (.tail _ (.tail _ (.tail _ (.head _))))), by decide⟩
theorem c1_ok {M W : List Nat} {c : Nat} (h1 : stOk st) (h2 : st = 92 → posix = true ∧ (esc = 97 ∨ esc = 34)) (h3 : pos ≤ T.length) (h6 : tok.length + 2 ≤ 2 * pos) : ROk T posix (2 * (T.length - pos) + 2 * 1) (lexChain T M W posix ⟨st, tok, ln, pos, [], quoted, esc⟩ [c]) := by
  have hp := pastLine_le h3
  have t0 : tok.length ≤ 2 * pos := Nat.le_trans (Nat.le_add_right _ 2) h6
  have t1 : (tok ++ [c]).length ≤ 2 * pos := tok_app h6
  have tc : [c].length ≤ 2 * pos := Nat.le_trans (by decide : 1 ≤ 2) (Nat.le_trans (Nat.le_add_left 2 _) h6)
  have t0' : tok.length ≤ 2 * pastLine T pos := Nat.le_trans t0 (Nat.mul_le_mul_left 2 hp.1)
  have n1 : 2 * (T.length - pos) < 2 * (T.length - pos) + 2 * 1 := n_lt
  have n2 : 2 * (T.length - pastLine T pos) < 2 * (T.length - pos) + 2 * 1 := n_lt' hp.1
  have s32 : stOk 32 := .tail _ (.head _)
  have s97 : stOk 97 := .tail _ (.tail _ (.head _))
  have s92 : stOk 92 := .tail _ (.tail _ (.tail _ (.tail _ (.tail _ (.tail _ (.head _))))))
  have no : ∀ {x : Nat}, x ≠ 92 → x = 92 → posix = true ∧ (esc = 97 ∨ esc = 34) := fun h e => absurd e h
  refine rok_ite (fun _ => rbrk h1 h2 h3 (Nat.zero_le _) (Nat.le_of_lt n1)) fun _ => ?_
  refine rok_ite (fun e => ?_) fun _ => ?_
  · exact rok_ite (fun _ => rstop h1 h2 h3 t0 n1) fun _ => rok_ite (fun _ => rgo h1 h2 hp.2 t0' n2) fun _ => rok_ite (fun e => rgo s92 (fun _ => ⟨e.1, .inl rfl⟩) h3 t0 n1) fun _ => rok_ite (fun _ => rgo s97 (no (by decide)) h3 tc n1) fun _ =>
      rok_ite (fun _ => rgo (.tail _ (.tail _ (.tail _ (.head _)))) (no (by decide)) h3 tc n1) fun _ => rok_ite (fun q => rgo (st_q q).1 (no (st_q q).2) h3 (by split <;> assumption) n1) fun _ => rbrk h1 h2 h3 tc (Nat.le_of_lt n1)
  refine rok_ite (fun e => ?_) fun _ => ?_
  · exact rok_ite (fun _ => rok_ite (fun _ => rgo s97 (no (by decide)) h3 t0 n1) fun _ => rbrk s32 (no (by decide)) h3 t1 (Nat.le_of_lt n1)) fun _ => rok_ite (fun e => rgo s92 (fun _ => ⟨e.1, .inr e.2.2⟩) h3 t0 n1) fun _ => rgo h1 h2 h3 t1 n1
  refine rok_ite (fun e => ?_) fun _ => ?_
  · have he := (h2 e).2
    have hs : stOk esc ∧ esc ≠ 92 := by
      rcases he with rfl | rfl
      · exact ⟨s97, by decide⟩
      · exact st_q (.tail _ (.head _))
    refine rgo hs.1 (no hs.2) h3 ?_ n1
    rw [List.length_append]
    split
    · rw [List.length_append]; exact h6
    · exact Nat.le_trans (Nat.add_le_add_left (by decide : 1 ≤ 2) _) h6
  refine rok_ite (fun e => ?_) fun _ => ?_
  · exact rok_ite (fun _ => rstop s32 (no (by decide)) h3 t0 n1) fun _ => rok_ite (fun _ => rok_ite (fun _ => rstop s32 (no (by decide)) hp.2 t0' n2) fun _ => rgo h1 h2 hp.2 t0' n2) fun _ => rok_ite (fun _ => rgo h1 h2 h3 t1 n1) fun _ => ⟨r_inv1 h3 h6, Nat.add_le_add_left (by decide : 1 ≤ 2) _⟩
  · exact rok_ite (fun _ => rstop s32 (no (by decide)) h3 t0 n1) fun _ => rok_ite (fun _ => rok_ite (fun _ => rstop s32 (no (by decide)) hp.2 t0' n2) fun _ => rgo h1 h2 hp.2 t0' n2) fun _ => rok_ite (fun q => rgo (st_q q.2).1 (no (st_q q.2).2) h3 t0 n1) fun _ =>
      rok_ite (fun e => rgo s92 (fun _ => ⟨e.1, .inl rfl⟩) h3 t0 n1) fun _ => rok_ite (fun _ => rgo h1 h2 h3 t1 n1) fun _ => stopIf_ok ⟨r_inv1 h3 h6, Nat.add_lt_add_left (by decide : 1 < 2) _⟩
theorem c0_ok {M W : List Nat} (h1 : stOk st) (h2 : st = 92 → posix = true ∧ (esc = 97 ∨ esc = 34)) (h3 : pos ≤ T.length) (h6 : tok.length ≤ 2 * pos) : ROk T posix (2 * (T.length - pos) + 2 * 0) (lexChain T M W posix ⟨st, tok, ln, pos, [], quoted, esc⟩ []) := by
  have hT : tok.length ≤ 2 * T.length := Nat.le_trans h6 (Nat.mul_le_mul_left 2 h3)
  have hn : 2 * (T.length - pos) ≤ 2 * (T.length - pos) + 2 * 0 := Nat.le_refl _
  have hz : ROk T posix (2 * (T.length - pos) + 2 * 0) (.brk ⟨0, tok, ln, pos, [], quoted, esc⟩) := rbrk (.head _) (fun e => (by cases e)) h3 h6 hn
  exact rok_ite (fun _ => rbrk h1 h2 h3 (Nat.zero_le _) hn) fun _ => rok_ite (fun _ => hz) fun _ => rok_ite (fun _ => hT) fun _ => rok_ite (fun _ => hT) fun _ => rok_ite (fun _ => hz) fun _ => hz
end
theorem chain_ok {T M W : List Nat} {posix : Bool} {cs : List Nat} {s : RS} (h : LMid T posix cs s) : ROk T posix (2 * (T.length - s.pos) + 2 * cs.length) (lexChain T M W posix s cs) := by
  obtain ⟨st, tok, ln, pos, pb, quoted, esc⟩ := s
  obtain ⟨h1, h2, h3, h4, h5, h6⟩ := h
  dsimp only at h1 h2 h3 h4 h5 h6 ⊢
  subst h4
  cases cs with
  | nil => exact c0_ok h1 h2 h3 h6
  | cons c r => cases r with
    | nil => exact c1_ok h1 h2 h3 h6
    | cons => exact absurd h5 (by simp)
theorem rd_line (P : LP) (L : Addr) (cd : Value) (st tok ps : V) (ln : Int) (pbs : List Nat) (nc esc : Str) (quoted : Bool) : runS (rI P) (rE L cd) 80 ⟨st, tok, .int ln, ps, pbs⟩ [("nextchar", .str nc), ("quoted", .bool quoted), ("escapedstate", .str esc)] (hdS (wbody rW) 1) =
  bif strEq nc (ofString "\n") then some (⟨st, tok, .int (ln + 1), ps, pbs⟩, [(ofString "nextchar", Dat.str nc), (ofString "quoted", Dat.bool quoted), (ofString "escapedstate", Dat.str esc)], Fl.next)
  else some (⟨st, tok, .int ln, ps, pbs⟩, [(ofString "nextchar", Dat.str nc), (ofString "quoted", Dat.bool quoted), (ofString "escapedstate", Dat.str esc)], Fl.next) := by kernel_rfl
theorem rd_debug (P : LP) (L : Addr) (cd : Value) (o : LO) (ρ : Loc) : runS (rI P) (rE L cd) 80 o ρ (hdS (wbody rW) 2) = some (o, ρ, Fl.next) := by kernel_rfl
theorem wbody_rW : wbody rW = [hdS (wbody rW) 0, hdS (wbody rW) 1, hdS (wbody rW) 2, hdS (wbody rW) 3] := by kernel_rfl
section
variable {prog : Program} {w : World} {Pm : Params} {p : Program} {loose : List Str} {mean : ExcName → Option Value} {mg mb : Str → Option Value} {A₀ : Around} {base : Heap} {outer : List Env} {A : Around}
noncomputable def BDid (prog : Program) (w : World) (A : Around) (C : Cx LO) (env : Env) (X : Nat → Led → Shared → (Value → Shared → Prop) → Prop) (o : LO) (ρ : Loc) (b : List Stmt) : ROut → Prop
  | .go s => ∃ ρ' fl, (fl = .next ∨ fl = .cont) ∧ BlOk prog w A C env X o ρ b (loOf s, ρ', fl) ∧ sle (rB s) ρ'
  | .brk s => ∃ ρ', BlOk prog w A C env X o ρ b (loOf s, ρ', .brk) ∧ sle (rB s) ρ'
  | .exc k s => ∃ ρ', BlOk prog w A C env X o ρ b (loOf s, ρ', .exc k)
theorem BDid.before {C : Cx LO} {env : Env} {X : Nat → Led → Shared → (Value → Shared → Prop) → Prop} {o o₁ : LO} {ρ ρ₁ : Loc} {b b₁ : List Stmt} {x : ROut} (h : BDid prog w A C env X o₁ ρ₁ b₁ x)
    (f : ∀ r, BlOk prog w A C env X o₁ ρ₁ b₁ r → BlOk prog w A C env X o ρ b r) : BDid prog w A C env X o ρ b x := by
  cases x with
  | go s => obtain ⟨ρ', fl, h1, h2, h3⟩ := h; exact ⟨ρ', fl, h1, f _ h2, h3⟩
  | brk s => obtain ⟨ρ', h2, h3⟩ := h; exact ⟨ρ', f _ h2, h3⟩
  | exc k s => obtain ⟨ρ', h2⟩ := h; exact ⟨ρ', f _ h2⟩
theorem lex_turn_ok {C : Cx LO} {P : LP} (hC : C.Rep = lexRep P) (hT : P.T.length ≤ 100) (hM : P.M.length ≤ 100) (hM1 : P.M ≠ []) {d : Nat} {cd : Value} (R : Rim (K02 Pm) p loose mean mg mb A₀ base outer A (rE C.L cd) C.h₀ C.L (d + 4)) (hself : C.refs = [((ofString "self"), Value.ref P.lx)]) {s : RS} (hs : LInv P.T P.posix s) :
    BDid prog w A C (rE C.L cd) (XF base C.h₀ outer (rE C.L cd) C.L) (loOf s) (rB s) (wbody rW) (lexTurn P.T P.M P.W P.posix s) := by
  have IK := lex_ok (prog := prog) (w := w) hC hT R hself
  obtain ⟨hm, hst, hnil, _⟩ := nextIn_ok hs
  have hsm : Small P s := ⟨by have := hs.tok; have := hs.pos; lia, hM, hM1, hs.pos, by have := hs.pb; lia⟩
  have h0 := lex_first (prog := prog) (w := w) hC hT R hself hsm hs.pb (ρ := rB s)
  unfold lexTurn
  have hq1 : (nextIn P.T s).2.quoted = s.quoted ∧ (nextIn P.T s).2.esc = s.esc := by
    unfold nextIn; split <;> exact ⟨rfl, rfl⟩
  generalize hn : nextIn P.T s = n at *
  obtain ⟨cs, s1⟩ := n
  simp only at h0 hq1 hm hst ⊢
  have hl : StOk prog w A C (rE C.L cd) (XF base C.h₀ outer (rE C.L cd) C.L) (loOf s1) (rC cs s) (hdS (wbody rW) 1) (loOf (lined cs s1), rC cs (lined cs s1), .next) := by
    have h1 := rd_line P C.L cd (stV s1.st) (.str (S s1.tok)) (.int (s1.pos : Int)) s1.ln s1.pb (S cs) (S [s1.esc]) s1.quoted
    rw [lit10, strEq_S] at h1
    unfold lined
    rw [hq1.1, hq1.2] at h1
    by_cases e : cs = [10]
    · rw [if_pos e]
      simp only [show (cs == [10]) = true by simp [e], cond_true] at h1
      have := runS_ok IK h1
      have e2 : rC cs { s1 with ln := s1.ln + 1 } = rC cs s := by show [_, _, _] = [_, _, _]; rw [hq1.1, hq1.2]
      rw [e2]
      exact this
    · rw [if_neg e]
      simp only [show (cs == [10]) = false by simp [e], cond_false] at h1
      have e2 : rC cs s1 = rC cs s := by show [_, _, _] = [_, _, _]; rw [hq1.1, hq1.2]
      rw [e2]
      exact runS_ok IK h1
  have h2 : StOk prog w A C (rE C.L cd) (XF base C.h₀ outer (rE C.L cd) C.L) (loOf (lined cs s1)) (rC cs (lined cs s1)) (hdS (wbody rW) 2) (loOf (lined cs s1), rC cs (lined cs s1), .next) := runS_ok IK (rd_debug P C.L cd _ _)
  have hsm2 : Small P (lined cs s1) := ⟨by have := hm.tok; have := hm.pos; lia, hM, hM1, hm.pos, by rw [hm.pb]; simp⟩
  have h3 := chain_did P C.L cd hsm2 ⟨hm.st, hm.esc⟩ cs hm.one
  have key : BDid prog w A C (rE C.L cd) (XF base C.h₀ outer (rE C.L cd) C.L) (loOf (lined cs s1)) (rC cs (lined cs s1)) [hdS (wbody rW) 3] (lexChain P.T P.M P.W P.posix (lined cs s1) cs) := by
    revert h3
    cases lexChain P.T P.M P.W P.posix (lined cs s1) cs with
    | go s' => rintro ⟨ρ', fl, h1, h2, h3⟩; exact ⟨ρ', fl, h1, bl_one (runS_ok IK h2), h3⟩
    | brk s' => rintro ⟨ρ', h2, h3⟩; exact ⟨ρ', bl_one (runS_ok IK h2), h3⟩
    | exc k s' => rintro ⟨ρ', h2⟩; exact ⟨ρ', bl_one (runS_ok IK h2)⟩
  rw [wbody_rW]
  exact key.before fun r hr => bl_next h0 (bl_next hl (bl_next h2 hr))
end
theorem nextIn_nil {T : List Nat} {s : RS} (h : s.pb = []) (hp : s.pos ≤ T.length) : 2 * (T.length - (nextIn T s).2.pos) + 2 * (nextIn T s).1.length ≤ lMeas T s := by
  unfold lMeas
  by_cases hk : s.pos < T.length
  · have e1 : nextIn T s = ([T[s.pos]], { s with pos := s.pos + 1 }) := by unfold nextIn readSt; rw [h]; simp only [dif_pos hk]
    rw [e1]; show 2 * (T.length - (s.pos + 1)) + 2 * 1 ≤ _; lia
  · have e1 : nextIn T s = ([], s) := by unfold nextIn readSt; rw [h]; simp only [dif_neg hk]; rw [← h]
    rw [e1]; show 2 * (T.length - s.pos) + 2 * 0 ≤ _; lia
theorem nil_meas {T M W : List Nat} {posix : Bool} {s s' : RS} {cs : List Nat} (h32 : s.st = 32) (hp : s.pb = []) (hpos : s.pos ≤ T.length) (h : lexChain T M W posix s cs = .go s') : lMeas T s' ≤ 2 * (T.length - s.pos) := by
  obtain ⟨st, tok, ln, pos, pb, quoted, esc⟩ := s
  simp only at h32 hp hpos
  subst h32; subst hp
  have hl := pastLine_le hpos
  unfold lexChain at h
  dsimp only at h
  rw [if_neg (by decide), if_pos rfl] at h
  unfold lexNil at h
  cases cs with
  | nil => cases h
  | cons c r =>
    simp only at h ⊢
    split at h
    · unfold stopIf at h; split at h
      · cases h
      · cases h; simp [lMeas]
    split at h
    · cases h; simp [lMeas]; lia
    split at h
    · cases h; simp [lMeas]
    split at h
    · cases h; simp [lMeas]
    split at h
    · cases h; simp [lMeas]
    split at h
    · cases h; simp [lMeas]
    · cases h
theorem turn_ok {T M W : List Nat} {posix : Bool} {s : RS} (h : LInv T posix s) : match lexTurn T M W posix s with
    | .go s' => LInv T posix s' ∧ lMeas T s' < lMeas T s
    | .brk s' => LInv T posix s'
    | .exc _ s' => True := by
  obtain ⟨hm, hst, hnil, hb⟩ := nextIn_ok h
  have hk := chain_ok (M := M) (W := W) hm
  have hpos : (lined (nextIn T s).1 (nextIn T s).2).pos = (nextIn T s).2.pos := by unfold lined; split <;> rfl
  have hst' : (lined (nextIn T s).1 (nextIn T s).2).st = s.st := by unfold lined; split <;> exact hst
  unfold lexTurn
  cases e : lexChain T M W posix (lined (nextIn T s).1 (nextIn T s).2) (nextIn T s).1 with
  | go s' =>
    rw [e] at hk
    refine ⟨hk.1, ?_⟩
    by_cases hpb : s.pb = []
    · have := nextIn_nil hpb h.pos
      have := hk.2
      rw [hpos] at this
      lia
    · have h32 := h.pbs hpb
      have := nil_meas (by rw [hst']; exact h32) hm.pb hm.pos e
      rw [hpos] at this
      have hcs : (nextIn T s).1.length = 1 := by
        cases q : s.pb with
        | nil => exact absurd q hpb
        | cons c r => unfold nextIn; rw [q]; rfl
      lia
  | brk s' => rw [e] at hk; exact hk.1
  | exc k s' => trivial
theorem rdLoop_total {T M W : List Nat} {posix : Bool} : ∀ n s, LInv T posix s → lMeas T s < n → ∃ x, rdLoop T M W posix n s = some x
  | 0, _, _, h => by lia
  | n + 1, s, h, hm => by
    have ht := turn_ok (M := M) (W := W) h
    unfold rdLoop
    cases e : lexTurn T M W posix s with
    | go s' => rw [e] at ht; exact rdLoop_total n s' ht.1 (by have := ht.2; lia)
    | brk s' => exact ⟨_, rfl⟩
    | exc k s' => exact ⟨_, rfl⟩
theorem rW_test : wtest rW = Expr.Constant (Const.bool true) 0 ⟨570, 14, 570, 18⟩ := by kernel_rfl
section
variable {prog : Program} {w : World} {Pm : Params} {p : Program} {loose : List Str} {mean : ExcName → Option Value} {mg mb : Str → Option Value} {A₀ : Around} {base : Heap} {outer : List Env} {A : Around}
noncomputable def LDid (prog : Program) (w : World) (A : Around) (C : Cx LO) (env : Env) (X : Nat → Led → Shared → (Value → Shared → Prop) → Prop) (T : List Nat) (posix : Bool) (s : RS) : ROut → Prop
  | .go _ => False
  | .brk s' => LInv T posix s' ∧ ∃ N ρ', WhileS prog w A C env X (wtest rW) (wbody rW) (loOf s', ρ', .next) N (loOf s) (rB s) ∧ sle (rB s') ρ'
  | .exc k s' => ∃ N ρ', WhileS prog w A C env X (wtest rW) (wbody rW) (loOf s', ρ', .exc k) N (loOf s) (rB s)
theorem lex_loop {C : Cx LO} {P : LP} (hC : C.Rep = lexRep P) (hT : P.T.length ≤ 100) (hM : P.M.length ≤ 100) (hM1 : P.M ≠ []) {d : Nat} {cd : Value} (R : Rim (K02 Pm) p loose mean mg mb A₀ base outer A (rE C.L cd) C.h₀ C.L (d + 4)) (hself : C.refs = [((ofString "self"), Value.ref P.lx)]) :
    ∀ n s x, LInv P.T P.posix s → rdLoop P.T P.M P.W P.posix n s = some x → LDid prog w A C (rE C.L cd) (XF base C.h₀ outer (rE C.L cd) C.L) P.T P.posix s x
  | 0, s, x, _, h => by cases h
  | n + 1, s, x, hs, h => by
    have IK := lex_ok (prog := prog) (w := w) hC hT R hself
    have ht : ∀ o ρ, TrOk prog w A C o (rE C.L cd) ρ (wtest rW) true := fun o ρ => by
      rw [rW_test]; exact tr_plain (ev_const rfl) rfl rfl
    have hturn := lex_turn_ok (prog := prog) (w := w) hC hT hM hM1 R hself hs
    have hok := turn_ok (M := P.M) (W := P.W) hs
    unfold rdLoop at h
    cases e : lexTurn P.T P.M P.W P.posix s with
    | go s' =>
      rw [e] at h hturn hok
      have ih := lex_loop hC hT hM hM1 R hself n s' x hok.1 h
      obtain ⟨ρ₁, fl, hf, hb, hsl⟩ := hturn
      cases x with
      | go => exact ih
      | brk s₂ => obtain ⟨i1, N, ρ', i2, i3⟩ := ih; exact ⟨i1, N + 1, ρ', .more (ht _ _) hb hf hsl i2, i3⟩
      | exc k s₂ => obtain ⟨N, ρ', i2⟩ := ih; exact ⟨N + 1, ρ', .more (ht _ _) hb hf hsl i2⟩
    | brk s' =>
      rw [e] at h hturn hok
      cases h
      obtain ⟨ρ₁, hb, hsl⟩ := hturn
      exact ⟨hok, 0, ρ₁, .brk (ht _ _) hb rfl, hsl⟩
    | exc k s' =>
      rw [e] at h hturn
      cases h
      obtain ⟨ρ₁, hb⟩ := hturn
      exact ⟨0, ρ₁, .exc (ht _ _) hb rfl⟩
end
section
set_option tactic.hygienic true
theorem rd_rest (P : LP) (L : Addr) (cd : Value) (st ps ln : V) (tok esc : Str) (pbs : List Nat) (quoted : Bool) : execBK brO (rI P) (rE L cd) none 80 ⟨st, .str tok, ln, ps, pbs⟩ [("quoted", .bool quoted), ("escapedstate", .str esc)] ((fbody (meth 19 6)).drop 3) (fun o _ fl => some (o, fl)) =
  bif P.posix then
    bif !quoted then bif strEq tok (ofString "") then some (⟨st, .str "", ln, ps, pbs⟩, Fl.ret Dat.none) else some (⟨st, .str "", ln, ps, pbs⟩, Fl.ret (Dat.str tok))
    else some (⟨st, .str "", ln, ps, pbs⟩, Fl.ret (Dat.str tok))
  else some (⟨st, .str "", ln, ps, pbs⟩, Fl.ret (Dat.str tok)) := by kernel_rfl
noncomputable def rawV (posix : Bool) (s : RS) : V := if posix = true ∧ s.quoted = false ∧ s.tok = [] then .none else .str (S s.tok)
theorem rd_rest_is (P : LP) (L : Addr) (cd : Value) (s : RS) : execBK brO (rI P) (rE L cd) none 80 (loOf s) (rB s) ((fbody (meth 19 6)).drop 3) (fun o _ fl => some (o, fl)) = some (loOf { s with tok := [] }, .ret (rawV P.posix s)) := by
  have h := rd_rest P L cd (stV s.st) (.int (s.pos : Int)) (.int (s.ln : Int)) (S s.tok) (S [s.esc]) s.pb s.quoted
  rw [litnil, strEq_S] at h
  refine h.trans ?_
  unfold rawV
  cases P.posix with
  | false => rw [if_neg (fun q => by cases q.1)]; rfl
  | true =>
    cases s.quoted with
    | true => rw [if_neg (fun q => by cases q.2.1)]; rfl
    | false =>
      by_cases e : s.tok = []
      · rw [if_pos ⟨rfl, rfl, e⟩]; simp only [Bool.not_false, cond_true, e]; rfl
      · rw [if_neg (fun q => e q.2.2)]; simp only [Bool.not_false, cond_true, show (s.tok == []) = false by simpa using e, cond_false]; rfl
theorem rd_s0 (P : LP) (L : Addr) (cd : Value) (o : LO) : runS (rI P) (rE L cd) 80 o [] (hdS (fbody (meth 19 6)) 0) = some (o, [(ofString "quoted", Dat.bool false)], Fl.next) := by kernel_rfl
theorem rd_s1 (P : LP) (L : Addr) (cd : Value) (o : LO) : runS (rI P) (rE L cd) 80 o [(ofString "quoted", Dat.bool false)] (hdS (fbody (meth 19 6)) 1) = some (o, [(ofString "escapedstate", Dat.str (ofString " ")), (ofString "quoted", Dat.bool false)], Fl.next) := by kernel_rfl
theorem rd_body : ∃ pos, fbody (meth 19 6) = hdS (fbody (meth 19 6)) 0 :: hdS (fbody (meth 19 6)) 1 :: Stmt.While (wtest rW) (wbody rW) [] pos :: (fbody (meth 19 6)).drop 3 := ⟨⟨570, 8, 692, 32⟩, by kernel_rfl⟩
inductive TokR where
  | tok (v : V) (s : RS)
  | exc (k : Nat) (s : RS)
noncomputable def readTok (T M W : List Nat) (posix : Bool) (s : RS) : Option TokR := match rdLoop T M W posix (2 * T.length + 10) { s with quoted := false, esc := 32 } with
  | some (.brk s') => some (.tok (rawV posix s') { s' with tok := [] })
  | some (.exc k s') => some (.exc k s')
  | _ => none
structure LTop (T : List Nat) (s : RS) : Prop where
  st : s.st = 0 ∨ s.st = 32
  pos : s.pos ≤ T.length
  pb : s.pb.length ≤ 1
  pbs : s.pb ≠ [] → s.st = 32
  le : s.pb.length ≤ s.pos
  tok : s.tok = []
theorem LTop.inv {T : List Nat} {posix : Bool} {s : RS} (h : LTop T s) : LInv T posix { s with quoted := false, esc := 32 } := by
  refine ⟨?_, ?_, h.pos, h.pb, h.pbs, ?_⟩
  · show s.st ∈ _
    rcases h.st with e | e <;> rw [e] <;> simp
  · intro e
    have e : s.st = 92 := e
    rcases h.st with q | q <;> rw [q] at e <;> cases e
  · show s.tok.length + 2 * s.pb.length ≤ 2 * s.pos
    rw [h.tok]; have := h.le; simp; lia
theorem stop_st {b : Bool} {s s' : RS} (h : stopIf b s = .brk s') : s' = s := by
  unfold stopIf at h; split at h
  · cases h; rfl
  · cases h
theorem chain_brk {T M W : List Nat} {posix : Bool} {s s' : RS} {cs : List Nat} (h : lexChain T M W posix s cs = .brk s') : s'.st = 0 ∨ s'.st = 32 := by
  unfold lexChain at h
  split at h
  · rename_i e; cases h; exact .inl e
  split at h
  · rename_i e
    cases cs with
    | nil => cases h; exact .inl rfl
    | cons c r =>
      unfold lexNil at h
      dsimp only at h
      split at h
      · rw [stop_st h]; exact .inr e
      split at h
      · cases h
      split at h
      · cases h
      split at h
      · cases h
      split at h
      · cases h
      split at h
      · cases h
      · cases h; exact .inr e
  split at h
  · cases cs with
    | nil => cases h
    | cons c r =>
      unfold lexQuote at h
      dsimp only at h
      split at h
      · split at h
        · cases h
        · cases h; exact .inr rfl
      split at h <;> cases h
  split at h
  · cases cs with
    | nil => cases h
    | cons c r => cases h
  split at h
  · cases cs with
    | nil => cases h; exact .inl rfl
    | cons c r =>
      unfold lexRun at h
      dsimp only at h
      split at h
      · rw [stop_st h]; exact .inr rfl
      split at h
      · split at h
        · rw [stop_st h]; exact .inr rfl
        · cases h
      split at h
      · cases h
      · cases h; exact .inr rfl
  · cases cs with
    | nil => cases h; exact .inl rfl
    | cons c r =>
      unfold lexWord at h
      dsimp only at h
      split at h
      · rw [stop_st h]; exact .inr rfl
      split at h
      · split at h
        · rw [stop_st h]; exact .inr rfl
        · cases h
      split at h
      · cases h
      split at h
      · cases h
      split at h
      · cases h
      · rw [stop_st h]; exact .inr rfl
theorem rdLoop_brk {T M W : List Nat} {posix : Bool} : ∀ n s s', rdLoop T M W posix n s = some (.brk s') → s'.st = 0 ∨ s'.st = 32
  | 0, _, _, h => by cases h
  | n + 1, s, s', h => by
    unfold rdLoop at h
    cases e : lexTurn T M W posix s with
    | go s₂ => rw [e] at h; exact rdLoop_brk n s₂ s' h
    | brk s₂ => rw [e] at h; cases h; exact chain_brk e
    | exc k s₂ => rw [e] at h; cases h
theorem rdLoop_inv {T M W : List Nat} {posix : Bool} : ∀ n s s', LInv T posix s → rdLoop T M W posix n s = some (.brk s') → LInv T posix s'
  | 0, _, _, _, h => by cases h
  | n + 1, s, s', hs, h => by
    have ht := turn_ok (M := M) (W := W) hs
    unfold rdLoop at h
    cases e : lexTurn T M W posix s with
    | go s₂ => rw [e] at h ht; exact rdLoop_inv n s₂ s' ht.1 h
    | brk s₂ => rw [e] at h ht; cases h; exact ht
    | exc k s₂ => rw [e] at h; cases h
theorem readTok_top {T M W : List Nat} {posix : Bool} {s s' : RS} {v : V} (hs : LTop T s) (h : readTok T M W posix s = some (.tok v s')) : LTop T s' := by
  unfold readTok at h
  split at h
  · rename_i s₂ e
    cases h
    have h1 := rdLoop_inv _ _ _ (hs.inv (posix := posix)) e
    have h2 := rdLoop_brk _ _ _ e
    exact ⟨h2, h1.pos, h1.pb, h1.pbs, by show s₂.pb.length ≤ s₂.pos; have := h1.tok; lia, rfl⟩
  · cases h
  · cases h
theorem readTok_total {T M W : List Nat} {posix : Bool} {s : RS} (hs : LTop T s) : ∃ x, readTok T M W posix s = some x := by
  have hm : lMeas T { s with quoted := false, esc := 32 } < 2 * T.length + 10 := by
    show 2 * (T.length - s.pos) + s.pb.length < _
    have := hs.pb; lia
  obtain ⟨x, hx⟩ := rdLoop_total (M := M) (W := W) _ _ (hs.inv (posix := posix)) hm
  unfold readTok
  rw [hx]
  cases x with
  | go s' =>
    exfalso
    have : ∀ n s s', rdLoop T M W posix n s ≠ some (.go s') := by
      intro n
      induction n with
      | zero => intro s s' h; cases h
      | succ n ih =>
        intro s s' h
        unfold rdLoop at h
        cases e : lexTurn T M W posix s with
        | go s₂ => rw [e] at h; exact ih s₂ s' h
        | brk s₂ => rw [e] at h; cases h
        | exc k s₂ => rw [e] at h; cases h
    exact this _ _ _ hx
  | brk s' => exact ⟨_, rfl⟩
  | exc k s' => exact ⟨_, rfl⟩
section
variable {prog : Program} {w : World} {Pm : Params} {p : Program} {loose : List Str} {mean : ExcName → Option Value} {mg mb : Str → Option Value} {A₀ : Around} {base : Heap} {outer : List Env} {A : Around} {env : Env}
theorem read_token_call {C : Cx LO} {P : LP} (hC : C.Rep = lexRep P) (hT : P.T.length ≤ 100) (hM : P.M.length ≤ 100) (hM1 : P.M ≠ []) {d : Nat} (R : Rim (K02 Pm) p loose mean mg mb A₀ base outer A env C.h₀ C.L (d + 5)) {s : RS} (hs : LTop P.T s) {x : TokR} (hx : readTok P.T P.M P.W P.posix s = some x)
    {ρ : Loc} {fz : Led} {st : Shared} {Q E : Value → Shared → Prop} (h : At C (loOf s) ρ fz st)
    (hq : ∀ fz' st' v d s', x = .tok d s' → Sub fz fz' → At C (loOf s') ρ fz' st' → VR fz' d v → Q v st')
    (hexc : ∀ fz' st' e k s', x = .exc k s' → Sub fz fz' → ExcAt C base (env :: outer) (loOf s') ρ fz' k e st' → E (.ref e) st') : wpAny (model prog w) A (call (.ref 690) [.ref P.lx]) Q E st := by
  refine wpAny_call ?_
  refine call_run (Res := fun o' fl => match x with | .tok d s' => o' = loOf s' ∧ fl = .ret d | .exc k s' => o' = loOf s' ∧ fl = .exc k) R h (name := "read_token") (qual := "shlex.read_token") (params := fpar (meth 19 6)) (body := fbody (meth 19 6)) (scope := fscope (meth 19 6)) (dV := .none) (kV := .none) (doc := .none) (pm := .str "cpy313.shlex" 1001) (cdv := .ref 689) (ct := .none) (oc := .type "function") (an := none) (od := none) (osl := #[]) (f := 690) (binds := [("self", .ref P.lx)])
    (by kernel_rfl) (by kernel_rfl) (BindsTo.of_eq (by kernel_rfl)) (by intro y hy; simp only [List.mem_singleton] at hy; subst hy; kernel_rfl) (by kernel_rfl) (by kernel_rfl) (by kernel_rfl) (by decide +kernel) (ρ' := []) (refs' := [("self", .ref P.lx)]) (fun _ _ hx => by cases hx) (fun q hq => by simp only [List.mem_singleton] at hq; subst hq; rfl)
    (fun g L' R' => ?_) (fun fz' s' o' d v hr sb hA hv => ?_) fun fz' s' o' k e hr sb hE => ?_
  · have IK := lex_ok (prog := prog) (w := w) (C := calleeCx C g L' [((ofString "self"), Value.ref P.lx)]) (P := P) hC hT R' rfl
    have hloop := lex_loop (prog := prog) (w := w) (C := calleeCx C g L' [((ofString "self"), Value.ref P.lx)]) (P := P) hC hT hM hM1 R' rfl (2 * P.T.length + 10) { s with quoted := false, esc := 32 }
    have hX := XF_loop (M := model prog w) R'.B (env := rE L' (.ref 689)) rfl R'.hk
    obtain ⟨pos, hbody⟩ := rd_body
    unfold readTok at hx
    have e0 : loOf { s with quoted := false, esc := 32 } = loOf s := rfl
    split at hx
    · rename_i s₂ e
      cases hx
      obtain ⟨_, N, ρ', hw, hsl⟩ := hloop _ (hs.inv) e
      have hwh := whileS_ok (p := pos) hX hw
      obtain ⟨⟨o₃, ρ₃, fl₃⟩, hb, e3⟩ := (execK_ok IK 80).2 _ _ _ _ (rd_rest_is P L' (.ref 689) s₂)
      obtain ⟨rfl, rfl⟩ : o₃ = loOf { s₂ with tok := [] } ∧ fl₃ = .ret (rawV P.posix s₂) := by simpa using e3
      refine ⟨(_, ρ₃, _), ?_, ⟨rfl, rfl⟩, .inl ⟨_, rfl⟩⟩
      rw [hbody]
      exact bl_next (runS_ok IK (rd_s0 P L' (.ref 689) (loOf s))) (bl_next (runS_ok IK (rd_s1 P L' (.ref 689) (loOf s))) (bl_weak (ρ' := rB { s with quoted := false, esc := 32 }) (bl_next hwh (bl_weak hb hsl)) ⟨rfl, by rw [← lit32]; rfl, trivial⟩))
    · rename_i k s₂ e
      cases hx
      obtain ⟨N, ρ', hw⟩ := hloop _ (hs.inv) e
      have hwh := whileS_ok (p := pos) hX hw
      refine ⟨(_, ρ', _), ?_, ⟨rfl, rfl⟩, .inr ⟨_, rfl⟩⟩
      rw [hbody]
      exact bl_next (runS_ok IK (rd_s0 P L' (.ref 689) (loOf s))) (bl_next (runS_ok IK (rd_s1 P L' (.ref 689) (loOf s))) (bl_weak (ρ' := rB { s with quoted := false, esc := 32 }) (bl_stop hwh (fun _ _ e => by cases e)) ⟨rfl, by rw [← lit32]; rfl, trivial⟩))
    · cases hx
  · cases x with
    | tok d' s' => obtain ⟨rfl, e⟩ := hr; cases e; exact hq _ _ _ _ _ rfl sb hA hv
    | exc k s' => obtain ⟨_, e⟩ := hr; cases e
  · cases x with
    | tok d' s' => obtain ⟨_, e⟩ := hr; cases e
    | exc k s' => obtain ⟨rfl, e⟩ := hr; cases e; exact hexc _ _ _ _ _ rfl sb hE
end
end
section
set_option tactic.hygienic true
noncomputable abbrev gE (L : Addr) (cd : Value) : Env := envOf "shlex.get_token" (fscope (meth 19 5)) L 683 cd
noncomputable abbrev gN : List Str := (locs (fscope (meth 19 5))).filter fun x : Str => !(x == ("self" : Str))
noncomputable abbrev gI (P : LP) : Ifc LO := lexI P gN [] fun _ _ _ => none
theorem rdtok_1 (Pm : Params) : findIn (K02 Pm) (.ref 722) "read_token" = some (some (.ref 690)) := by kernel_rfl
theorem gettok_1 (Pm : Params) : findIn (K02 Pm) (.ref 722) "get_token" = some (some (.ref 683)) := by kernel_rfl
noncomputable def isEof (posix : Bool) : V → Bool
  | .none => posix
  | .str x => !posix && strEq x ""
  | _ => false
noncomputable abbrev gW1 : PySem.Expr := Expr.Compare (Expr.Name (ofString "raw") ⟨554, 14, 554, 17⟩) [CmpOp.Eq] [Expr.Attribute (Expr.Name (ofString "self") ⟨554, 21, 554, 25⟩) (ofString "eof") ⟨554, 21, 554, 29⟩] ⟨554, 14, 554, 29⟩
noncomputable abbrev gA : PySem.Expr := Expr.Attribute (Expr.Name (ofString "self") ⟨555, 19, 555, 23⟩) (ofString "filestack") ⟨555, 19, 555, 33⟩
noncomputable abbrev gR : Stmt := Stmt.Return (some (Expr.Attribute (Expr.Name (ofString "self") ⟨556, 23, 556, 27⟩) (ofString "eof") ⟨556, 23, 556, 31⟩)) ⟨556, 16, 556, 31⟩
noncomputable abbrev gA0 : PySem.Expr := Expr.Attribute (Expr.Name (ofString "self") ⟨541, 11, 541, 15⟩) (ofString "pushback") ⟨541, 11, 541, 24⟩
noncomputable abbrev gS1 : Stmt := Stmt.Assign [Expr.Name (ofString "raw") ⟨546, 8, 546, 11⟩] (Expr.Call (Expr.Attribute (Expr.Name (ofString "self") ⟨546, 14, 546, 18⟩) (ofString "read_token") ⟨546, 14, 546, 29⟩) [] [] ⟨546, 14, 546, 31⟩) ⟨546, 8, 546, 31⟩
theorem g_body : ∃ b0 e5, fbody (meth 19 5) = [.If gA0 b0 [] ⟨541, 8, 545, 22⟩, gS1, hdS (fbody (meth 19 5)) 2, .While gW1 [.If (.UnaryOp .Not gA ⟨555, 15, 555, 33⟩) [gR] e5 ⟨555, 12, 559, 38⟩] [] ⟨554, 8, 559, 38⟩, hdS (fbody (meth 19 5)) 4, hdS (fbody (meth 19 5)) 5] := by
  refine ⟨match hdS (fbody (meth 19 5)) 0 with | .If _ b _ _ => b | _ => [], match wbody (hdS (fbody (meth 19 5)) 3) with | [.If _ _ e _] => e | _ => [], ?_⟩
  kernel_rfl
theorem g_2 (P : LP) (L : Addr) (cd : Value) (o : LO) (d : V) : runS (gI P) (gE L cd) 80 o [("raw", d)] (hdS (fbody (meth 19 5)) 2) = some (o, [(ofString "raw", d)], Fl.next) := by kernel_rfl
theorem g_4 (P : LP) (L : Addr) (cd : Value) (o : LO) (d : V) : runS (gI P) (gE L cd) 80 o [("raw", d)] (hdS (fbody (meth 19 5)) 4) = some (o, [(ofString "raw", d)], Fl.next) := by kernel_rfl
theorem g_5 (P : LP) (L : Addr) (cd : Value) (o : LO) (d : V) : runS (gI P) (gE L cd) 80 o [("raw", d)] (hdS (fbody (meth 19 5)) 5) = some (o, [(ofString "raw", d)], Fl.ret d) := by kernel_rfl
theorem g_test (P : LP) (o : LO) (d : V) (hd : d = .none ∨ ∃ x, d = .str x) : runT (gI P) 80 o [("raw", d)] gW1 = some (isEof P.posix d) := by
  obtain ⟨lx, ld, io, id, pbA, fs, pc, T, M, W, posix⟩ := P
  rcases hd with rfl | ⟨x, rfl⟩
  · cases posix with
    | true => kernel_rfl
    | false => kernel_rfl
  · cases posix with
    | true => kernel_rfl
    | false => kernel_rfl
theorem g_eof (P : LP) {d : V} (h : isEof P.posix d = true) : d = eofV P.posix := by
  unfold isEof at h
  split at h
  · rw [h]; rfl
  · simp only [Bool.and_eq_true, Bool.not_eq_true'] at h
    rw [h.1]
    have : strEq _ (ofString "") = true := h.2
    rw [litnil] at this
    rename_i x
    have e : x.cps.toList = [] := by simpa [strEq] using this
    have : x = S [] := by rw [S_of x, e]
    rw [this, ← litnil]; rfl
  · cases h
section
variable {prog : Program} {w : World} {Pm : Params} {p : Program} {loose : List Str} {mean : ExcName → Option Value} {mg mb : Str → Option Value} {A₀ : Around} {base : Heap} {outer : List Env} {A : Around} {env : Env}
theorem gN_local (L : Addr) (cd : Value) : ∀ x ∈ gN, (gE L cd).kindOf x = some .local := by
  have : ∀ x ∈ gN, (gE 0 .none).kindOf x = some .local := by decide +kernel
  exact this
theorem g_ok {C : Cx LO} {P : LP} (hC : C.Rep = lexRep P) {d : Nat} {cd : Value} (R : Rim (K02 Pm) p loose mean mg mb A₀ base outer A (gE C.L cd) C.h₀ C.L (d + 1)) (hself : C.refs = [((ofString "self"), Value.ref P.lx)]) {X : Nat → Led → Shared → (Value → Shared → Prop) → Prop} :
    IfcOk prog w A C (gE C.L cd) (gI P) X P.lx :=
  have hk : (gE C.L cd).kindOf "self" = some .local := by kernel_rfl
  have hs : ((ofString "self"), Value.ref P.lx) ∈ C.refs := by rw [hself]; exact .head _
  { orc := fun o => {
      fn := R.hk
      loc := R.hl
      names := gN_local _ _
      attr := fun a v h ρ p1 p2 fz s Q E hA hq => by
        have h' : lexAttr P o a = some v := h
        exact Attribute_name (self_at R hs hk hA (lex_getA hC R h' hA fun fz' s' v' sb h1 x1 => hq fz' s' v' sb h1 x1))
      call := fun f ds d h => by cases h }
    hh := R.hh
    inter := R.hi
    off := fun q hq => by rw [hself] at hq; simp only [List.mem_singleton] at hq; subst hq; exact (show gN.contains (ofString "self") = false by decide +kernel)
    self := .inl hs
    selfK := .inl ⟨hk, (by decide : ((ofString "self") == ("__debug__" : Str)) = false)⟩
    get := fun o a v h ρ fz s Q E hA hq => by
      have h' : lexAttr P o a = some v := h
      exact lex_getA hC R h' hA hq
    set := fun o a dv o' h ρ fz s v Q E hA hv hq => lex_setA hC R h hA hv hq
    push := fun o x d o' h => by cases h
    give := fun o x o' d h => by cases h
    prim := fun o ρ st r h => by cases h }
theorem dq_empty {C : Cx LO} {P : LP} (hC : C.Rep = lexRep P) {d : Nat} (R : Rim (K02 Pm) p loose mean mg mb A₀ base outer A env C.h₀ C.L d) (hself : ((ofString "self"), Value.ref P.lx) ∈ C.refs) (hk : env.kindOf "self" = some .local) {o : LO} {ρ : Loc} {q q' : Pos} {f : Str} {a : Addr}
    (hf : ∀ o, (lexFields P o).lookup f = some (.r a)) (ha : a = P.pb ∨ a = P.fs) : TrOk prog w A C o env ρ (.Attribute (.Name (ofString "self") q) f q') false := by
  intro fz st Q E h hq
  refine isTrue_plain (lex_ref (P := P) hC R hself hk hf h fun s₁ h₁ => ?_) rfl
  obtain ⟨hp, tk, m, Rl, rfl, F, N, rp, ap, lc, rf⟩ := id h₁
  obtain ⟨es, n, es2, n2, s1, s2, s3, vs, rfl, h1, h2, h3, h4⟩ := (hC ▸ rp : lexRep P o fz Rl)
  have : ∃ st', hp.get? a = some (dqObj st' []) := by
    rcases ha with rfl | rfl
    · exact ⟨s1, (N (P.pb, dqObj s1 []) (by simp)).1⟩
    · exact ⟨s2, (N (P.fs, dqObj s2 []) (by simp)).1⟩
  obtain ⟨st', hst⟩ := this
  exact dq_truthy (s := { heap := hp, gens := C.s₀.gens, drawn := C.s₀.drawn, toks := tk, os := C.s₀.os }) hst (by simp) (hq fz _ (fun _ h => h) (h₁.toks _))
theorem rawV_str (posix : Bool) (s : RS) : rawV posix s = .none ∨ ∃ x, rawV posix s = .str x := by
  unfold rawV; split
  · exact .inl rfl
  · exact .inr ⟨_, rfl⟩
theorem readTok_raw {T M W : List Nat} {posix : Bool} {s s' : RS} {d : V} (h : readTok T M W posix s = some (.tok d s')) : d = .none ∨ ∃ x, d = .str x := by
  unfold readTok at h
  split at h
  · cases h; exact rawV_str _ _
  · cases h
  · cases h
theorem get_token_call {C : Cx LO} {P : LP} (hC : C.Rep = lexRep P) (hT : P.T.length ≤ 100) (hM : P.M.length ≤ 100) (hM1 : P.M ≠ []) {d : Nat} (R : Rim (K02 Pm) p loose mean mg mb A₀ base outer A env C.h₀ C.L (d + 6)) {s : RS} (hs : LTop P.T s) {x : TokR} (hx : readTok P.T P.M P.W P.posix s = some x)
    {ρ : Loc} {fz : Led} {st : Shared} {Q E : Value → Shared → Prop} (h : At C (loOf s) ρ fz st)
    (hq : ∀ fz' st' v d s', x = .tok d s' → Sub fz fz' → At C (loOf s') ρ fz' st' → VR fz' d v → Q v st')
    (hexc : ∀ fz' st' e k s', x = .exc k s' → Sub fz fz' → ExcAt C base (env :: outer) (loOf s') ρ fz' k e st' → E (.ref e) st') : wpAny (model prog w) A (call (.ref 683) [.ref P.lx]) Q E st := by
  refine wpAny_call ?_
  refine call_hand (Post := fun o' d => ∃ s', x = .tok d s' ∧ o' = loOf s') (PostX := fun o' k => ∃ s', x = .exc k s' ∧ o' = loOf s') R h (name := "get_token") (qual := "shlex.get_token") (params := fpar (meth 19 5)) (body := fbody (meth 19 5)) (scope := fscope (meth 19 5)) (dV := .none) (kV := .none) (doc := .none) (pm := .str "cpy313.shlex" 1001) (cdv := .ref 682) (ct := .none) (oc := .type "function") (an := none) (od := none) (osl := #[]) (f := 683) (binds := [("self", .ref P.lx)])
    (by kernel_rfl) (by kernel_rfl) (BindsTo.of_eq (by kernel_rfl)) (by intro y hy; simp only [List.mem_singleton] at hy; subst hy; kernel_rfl) (by kernel_rfl) (by kernel_rfl) (by kernel_rfl) (by decide +kernel) (ρ' := []) (refs' := [("self", .ref P.lx)]) (fun _ _ hx => by cases hx) (fun q hq => by simp only [List.mem_singleton] at hq; subst hq; rfl)
    (fun g L' s' R' h' => ?_) (fun fz' s' o' d v hr sb hA hv => ?_) fun fz' s' o' k e hr sb hE => ?_
  · have IK := g_ok (prog := prog) (w := w) (C := calleeCx C g L' [((ofString "self"), Value.ref P.lx)]) (P := P) (X := fun _ _ _ _ => False) hC R' rfl
    have hk : (gE L' (.ref 682)).kindOf "self" = some .local := by kernel_rfl
    have hsf : ((ofString "self"), Value.ref P.lx) ∈ (calleeCx C g L' [((ofString "self"), Value.ref P.lx)]).refs := .head _
    obtain ⟨b0, e5, hbody⟩ := g_body
    rw [hbody]
    have h0 : StOk prog w (A.deeper (gE L' (.ref 682))) (calleeCx C g L' [((ofString "self"), Value.ref P.lx)]) (gE L' (.ref 682)) (fun _ _ _ _ => False) (loOf s) [] (.If gA0 b0 [] ⟨541, 8, 545, 22⟩) (loOf s, [], .next) :=
      st_if (c := false) (dq_empty (C := calleeCx C g L' [((ofString "self"), Value.ref P.lx)]) (P := P) hC R' hsf hk (f := ofString "pushback") (a := P.pb) (fun o => rfl) (.inl rfl)) bl_nil
    refine wpAny_execs_cons (h0 fz s' _ _ h' fun fz₁ s₁ sb₁ h₁ => ?_)
    refine wpAny_execs_cons (wpAny_Assign_Name (MethodCall_ (pl := _) (self_at (C := calleeCx C g L' [((ofString "self"), Value.ref P.lx)]) R' hsf hk h₁ ?_) (meth_eq (v := .Name (ofString "self") ⟨546, 14, 546, 18⟩) rfl rfl (by simp) (by rfl))) (swap_off (by rfl)))
    obtain ⟨hp, tk, mm, Rl, rfl, F, N, rp, ap, lc, rf⟩ := id h₁
    obtain ⟨es, n, g1, g2, g3⟩ := lex_here ((show (calleeCx C g L' [((ofString "self"), Value.ref P.lx)]).Rep = lexRep P from hC) ▸ rp)
    have I : InstAt hp P.lx (instObj 722 P.ld) 722 (some (dictOf es n)) := ⟨(N _ (List.mem_append_left _ g1)).1, rfl, rfl, (N _ (List.mem_append_left _ g2)).1⟩
    refine method_inst (s := { heap := hp, gens := C.s₀.gens, drawn := C.s₀.drawn, toks := tk, os := C.s₀.os }) F R'.X I (lex_get1 Pm) (rdtok_1 Pm) (by kernel_rfl) (fs_none g3 (by rfl)) ?_
    refine callWith_K0 (K := K02 Pm) (first := [.ref P.lx]) (R'.knows F) (by kernel_rfl) ?_
    refine read_token_call (C := calleeCx C g L' [((ofString "self"), Value.ref P.lx)]) hC hT hM hM1 R' hs hx h₁ (fun fz₂ s₂ v dd s₃ ex sb₂ h₂ hv => ?_) fun fz₂ s₂ e k s₃ ex sb₂ hE => ?_
    · refine store_ok IK h₂ (show gN.contains (ofString "raw") = true by decide +kernel) hv fun s₄ h₄ => ?_
      subst ex
      have hraw := readTok_raw hx
      have rest : BlOk prog w (A.deeper (gE L' (.ref 682))) (calleeCx C g L' [((ofString "self"), Value.ref P.lx)]) (gE L' (.ref 682)) (fun _ _ _ _ => False) (loOf s₃) [(ofString "raw", dd)] [hdS (fbody (meth 19 5)) 2, .While gW1 [.If (.UnaryOp .Not gA ⟨555, 15, 555, 33⟩) [gR] e5 ⟨555, 12, 559, 38⟩] [] ⟨554, 8, 559, 38⟩, hdS (fbody (meth 19 5)) 4, hdS (fbody (meth 19 5)) 5] (loOf s₃, [(ofString "raw", dd)], .ret dd) := by
        refine bl_next (runS_ok IK (g_2 P L' (.ref 682) _ dd)) ?_
        have ht := runT_ok IK (g_test P (loOf s₃) dd hraw)
        cases q : isEof P.posix dd with
        | false =>
          rw [q] at ht
          refine bl_next (whileS_ok (fun _ _ _ _ h => h) (n := 0) (.stop ht rfl)) (bl_next (runS_ok IK (g_4 P L' (.ref 682) _ dd)) (bl_one (runS_ok IK (g_5 P L' (.ref 682) _ dd))))
        | true =>
          rw [q] at ht
          have e := g_eof P q
          refine bl_stop (whileS_ok (fun _ _ _ _ h => h) (n := 0) (.ret ht (bl_one (st_if (c := true) (tr_not (dq_empty (C := calleeCx C g L' [((ofString "self"), Value.ref P.lx)]) (P := P) hC R' hsf hk (f := ofString "filestack") (a := P.fs) (fun o => rfl) (.inr rfl))) (bl_one ?_))) rfl)) (fun _ _ e => by cases e)
          refine st_ret ((IK.orc _).attr (ofString "eof") dd ?_ _ _ _)
          rw [e]; rfl
      refine rest fz₂ s₄ _ _ h₄ fun fz₅ s₅ sb₅ h₅ v hv => ⟨fz₅, _, _, dd, fun p hp => sb₅ p (sb₂ p (sb₁ p hp)), h₅, hv, s₃, rfl, rfl⟩
    · exact ⟨fz₂, _, [], k, e, rfl, fun p hp => sb₂ p (sb₁ p hp), hE, s₃, ex, rfl⟩
  · obtain ⟨s', e, rfl⟩ := hr
    exact hq _ _ _ _ _ e sb hA hv
  · obtain ⟨s', e', rfl⟩ := hr
    exact hexc _ _ _ _ _ e' sb hE
end
end
noncomputable abbrev lwS : Scope := fscope (stAt 25)
noncomputable abbrev lwE (L fa : Addr) (cd : Value) : Env := envOfC "law" lwS L fa cd
structure LC where
  numbers : Option V
  below : Option V
noncomputable def cellV (fz : Led) (o : Obj) : Option V → Prop
  | none => o.data = .cell none
  | some d => ∃ v, o.data = .cell (some v) ∧ VR fz d v
theorem cellV_mono {fz fz' : Led} (h : ∀ p ∈ fz, p ∈ fz') {o : Obj} : ∀ {d : Option V}, cellV fz o d → cellV fz' o d
  | none, x => x
  | some _, ⟨v, e, x⟩ => ⟨v, e, x.mono h⟩
def lawRep (L : Addr) (o : LC) (fz R : Led) : Prop := ∃ ob on, R = [(L + 2, ob), (L + 1, on)] ∧ cellV fz on o.numbers ∧ cellV fz ob o.below
noncomputable def lawCx (s₀ : Shared) (h₀ : Heap) (L : Addr) (rest : Led) (refs : List (Str × Value)) : Cx LC :=
  { s₀ := s₀, h₀ := h₀, L := L, rest := rest, refs := refs, Rep := lawRep L, mono := fun _ _ _ _ h ⟨ob, on, e, h1, h2⟩ => ⟨ob, on, e, cellV_mono h h1, cellV_mono h h2⟩ }
theorem lw_cells (L : Addr) : cellsFrom (L + 1) lwS.names [] = [(ofString "below", L + 2), (ofString "numbers", L + 1)] := by kernel_rfl
section
variable {prog : Program} {w : World} {A : Around} {L fa : Addr} {cd : Value} {s₀ : Shared} {h₀ : Heap} {rest : Led} {refs : List (Str × Value)}
theorem ev_numbers {o : LC} {d : V} (hd : o.numbers = some d) {ρ : Loc} {p : Pos} : EvOk prog w A (lawCx s₀ h₀ L rest refs) o (lwE L fa cd) ρ (.Name (ofString "numbers") p) d := by
  intro fz s Q E h hq
  obtain ⟨h', tk, m, R, rfl, F, N, rp, ap, lc, rf⟩ := id h
  obtain ⟨ob, on, rfl, h1, h2⟩ := (rp : lawRep L o fz R)
  rw [hd] at h1
  obtain ⟨v, e, x⟩ := h1
  exact ldCN (s := { heap := h', gens := s₀.gens, drawn := s₀.drawn, toks := tk, os := s₀.os }) (news := [(L + 2, ob), (L + 1, on)] ++ (fz ++ rest)) N (by rw [lw_cells]; rfl) (show (L + 1, on) ∈ _ by simp) e (hq fz _ v (fun _ h => h) h x) (by kernel_rfl) (by kernel_rfl) (by decide)
theorem ev_below {o : LC} {d : V} (hd : o.below = some d) {ρ : Loc} {p : Pos} : EvOk prog w A (lawCx s₀ h₀ L rest refs) o (lwE L fa cd) ρ (.Name (ofString "below") p) d := by
  intro fz s Q E h hq
  obtain ⟨h', tk, m, R, rfl, F, N, rp, ap, lc, rf⟩ := id h
  obtain ⟨ob, on, rfl, h1, h2⟩ := (rp : lawRep L o fz R)
  rw [hd] at h2
  obtain ⟨v, e, x⟩ := h2
  exact ldCN (s := { heap := h', gens := s₀.gens, drawn := s₀.drawn, toks := tk, os := s₀.os }) (news := [(L + 2, ob), (L + 1, on)] ++ (fz ++ rest)) N (by rw [lw_cells]; rfl) (show (L + 2, ob) ∈ _ by simp) e (hq fz _ v (fun _ h => h) h x) (by kernel_rfl) (by kernel_rfl) (by decide)
theorem lw_apart {fz : Led} {a b : Addr × Obj} {R' : Led} (ap : Apart [a, b] (fz ++ rest)) (h1 : R' = [(a.1, o1), (b.1, o2)]) : Apart R' (fz ++ rest) := by
  subst h1
  intro p hp q hq
  simp only [List.mem_cons, List.not_mem_nil, or_false] at hp
  rcases hp with rfl | rfl
  · exact ap a (by simp) q hq
  · exact ap b (by simp) q hq
theorem st_numbers {o : LC} {ρ : Loc} {fz : Led} {s : Shared} {d : V} {v : Value} {Q : Unit → Shared → Prop} {E : Value → Shared → Prop} (h : At (lawCx s₀ h₀ L rest refs) o ρ fz s) (hv : VR fz d v)
    (hq : ∀ s', At (lawCx s₀ h₀ L rest refs) { o with numbers := some d } ρ fz s' → Q () s') : wpAny (model prog w) A (storeName (lwE L fa cd) (ofString "numbers") v) Q E s := by
  obtain ⟨h', tk, m, R, rfl, F, N, rp, ap, lc, rf⟩ := id h
  obtain ⟨ob, on, rfl, h1, h2⟩ := (rp : lawRep L o fz R)
  have hd : ∃ v₀, on.data = .cell v₀ := by
    cases e : o.numbers with
    | none => rw [e] at h1; exact ⟨_, h1⟩
    | some d => rw [e] at h1; obtain ⟨v, e, _⟩ := h1; exact ⟨_, e⟩
  obtain ⟨v₀, hd⟩ := hd
  refine stCN (s := { heap := h', gens := s₀.gens, drawn := s₀.drawn, toks := tk, os := s₀.os }) (own := [(L + 2, ob)]) (rest := fz ++ rest) F N (c := L + 1) (by rw [lw_cells]; rfl) hd (fun q hq => ?_) (fun q hq e => ap (L + 1, on) (by simp) q hq e.symm) (fun h₂ o' F' N' ho' => ?_) (by kernel_rfl) (by kernel_rfl)
  · simp only [List.mem_singleton] at hq; subst hq; exact fun e => absurd (Nat.add_left_cancel (e : L + 2 = L + 1)) (by decide)
  · exact hq _ ⟨h₂, tk, m, [(L + 2, ob), (L + 1, o')], rfl, F', N', ⟨ob, o', rfl, ⟨v, ho', hv⟩, h2⟩, lw_apart (o1 := ob) (o2 := o') ap rfl, lc, rf⟩
theorem st_below {o : LC} {ρ : Loc} {fz : Led} {s : Shared} {d : V} {v : Value} {Q : Unit → Shared → Prop} {E : Value → Shared → Prop} (h : At (lawCx s₀ h₀ L rest refs) o ρ fz s) (hv : VR fz d v)
    (hq : ∀ s', At (lawCx s₀ h₀ L rest refs) { o with below := some d } ρ fz s' → Q () s') : wpAny (model prog w) A (storeName (lwE L fa cd) (ofString "below") v) Q E s := by
  obtain ⟨h', tk, m, R, rfl, F, N, rp, ap, lc, rf⟩ := id h
  obtain ⟨ob, on, rfl, h1, h2⟩ := (rp : lawRep L o fz R)
  have hd : ∃ v₀, ob.data = .cell v₀ := by
    cases e : o.below with
    | none => rw [e] at h2; exact ⟨_, h2⟩
    | some d => rw [e] at h2; obtain ⟨v, e, _⟩ := h2; exact ⟨_, e⟩
  obtain ⟨v₀, hd⟩ := hd
  refine stCN (s := { heap := h', gens := s₀.gens, drawn := s₀.drawn, toks := tk, os := s₀.os }) (own := []) (rest := (L + 1, on) :: (fz ++ rest)) F N (c := L + 2) (by rw [lw_cells]; rfl) hd (fun q hq => by cases hq) (fun q hq => ?_) (fun h₂ o' F' N' ho' => ?_) (by kernel_rfl) (by kernel_rfl)
  · rcases List.mem_cons.mp hq with rfl | hq
    · exact fun e => absurd (Nat.add_left_cancel (e : L + 1 = L + 2)) (by decide)
    · exact fun e => ap (L + 2, ob) (by simp) q hq e.symm
  · exact hq _ ⟨h₂, tk, m, [(L + 2, o'), (L + 1, on)], rfl, F', N', ⟨o', on, rfl, h1, ⟨v, ho', hv⟩⟩, lw_apart (o1 := o') (o2 := on) ap rfl, lc, rf⟩
end
section
set_option tactic.hygienic true
noncomputable def trivCx (s₀ : Shared) (h₀ : Heap) (L : Addr) : Cx Unit := { s₀ := s₀, h₀ := h₀, L := L, rest := [], refs := [], Rep := fun _ _ R => R = [], mono := fun _ _ _ _ _ h => h }
section
variable {prog : Program} {w : World} {K : Frag} {p : Program} {loose : List Str} {mean : ExcName → Option Value} {mg mb : Str → Option Value} {A₀ : Around} {base : Heap} {outer : List Env} {A : Around} {env : Env}
theorem call_keep {h₀ : Heap} {L : Addr} {d : Nat} (R : Rim K p loose mean mg mb A₀ base outer A env h₀ L (d + 1)) {s : Shared} {m : Str → Option Value} (F : Fr h₀ L s.heap m)
    {name qual : Str} {params : Arguments} {body : List Stmt} {scope : Scope} {dV kV doc pm cdv ct oc : Value} {an od : Option Addr} {osl : Array (Option Value)} {f : Addr} {xs : List Str} {vs : List Value} {ds : List V} {r : V}
    (ho : K.lookup f = some ⟨oc, od, .func (fnOf name qual params body scope dV kV doc pm an cdv ct), osl⟩) (hcd : codeIn K cdv qual = true)
    (hbind : BindsTo s (fnOf name qual params body scope dV kV doc pm an cdv ct) ⟨vs, []⟩ (xs.zip vs)) (hloc : ∀ y ∈ xs, scope.names.lookup y = some .local) (hnd : xs.Nodup) (hlen : vs.length = xs.length)
    (hco : scope.isCoroutine = false) (hgen : scope.isGenerator = false) (hk : scope.kind = .function) (hcell : ∀ x ∈ scope.names, x.2 ≠ .cell)
    (hv : DatAll [] vs ds) (hr : ∀ fz v, VR fz r v → VR [] r v)
    (hrun : ∀ {C : Cx Unit} {A₀ : Around} {base : Heap} {outer : List Env} {A : Around} {L : Addr}, C.refs = [] → Rim K p loose mean mg mb A₀ base outer A (envOf qual scope L f cdv) C.h₀ C.L d → C.L = L →
      ∃ ρ, BlOk prog w A C (envOf qual scope L f cdv) (fun _ _ _ _ => False) () (xs.zip ds) body ((), ρ, .ret r))
    {Q E : Value → Shared → Prop} (hq : ∀ s' v, Keeps s s' → VR [] r v → Q v s') : wpAny (model prog w) A (call (.ref f) vs) Q E s := by
  refine wpAny_call ?_
  refine code_defG R.B F R.X News.nil R.T R.hA R.hf R.hk ho hcd (by have := R.room; lia) hbind (fun y hy => hloc _ (List.of_mem_zip hy).1) (fun g L' h₁ FG F' N' B' X' T' G' => ?_) hco hgen hk hcell
  have R' : Rim K p loose mean mg mb A base (env :: outer) (A.deeper (envOf qual scope L' f cdv)) (envOf qual scope L' f cdv) g L' d := by
    refine ⟨B', X', T', ?_, rfl, hk, rfl, rfl, rfl, R.hh, inter_off hk, ?_⟩
    · exact Around.frames_deeper R.hA
    · have := R.room
      show A.depth + 1 + d ≤ _
      lia
  have hA' : At (trivCx s g L') () (xs.zip ds) [] { s with heap := h₁, toks := s.toks + (xs.zip vs).length } := ⟨h₁, _, _, [], rfl, F', by simpa [trivCx] using N', rfl, fun p hp => (by cases hp), fun x v hx => ?_, fun p hp => by cases hp⟩
  · obtain ⟨ρ'', hb⟩ := hrun (C := trivCx s g L') rfl R' rfl
    refine hb [] _ _ _ hA' fun fz₂ s₂ s2 h2 v hv => ?_
    obtain ⟨h₃, tk, m₃, R₃, rfl, F₃, N₃, _, _, _, _⟩ := h2
    refine ⟨L', m₃, [], F₃, News.nil, fun F₄ N₄ => hq _ v ⟨h₃, tk, rfl, fun b o e => F₃.keep b o (G' b o e (by simp))⟩ (hr _ _ hv)⟩
  · obtain ⟨v', e1, e2⟩ := zip_lookup hv hx
    refine ⟨v', lookup_rev ?_ e1, e2⟩
    have : (xs.zip vs).map (·.1) = xs := List.map_fst_zip (by lia)
    rw [this]; exact hnd
noncomputable def chrV : List V → Option (Bool × V)
  | [.int n] => some (decide (0 ≤ n) && decide (n ≤ 1114111), .str (S [n.toNat]))
  | _ => none
end
section
variable {prog : Program} {w : World} {P : Params} {p : Program} {loose : List Str} {mean : ExcName → Option Value} {mg mb : Str → Option Value}
theorem chr_pure (d : Nat) : PureC prog w (K02 P) p loose mean mg mb "chr" d chrV := by
  intro O C A₀ base outer A env o ρ fz s R h hkind args pos q ds r hr hs hne Q E hw
  refine Call_Name rfl (blt_name R h (v := .builtin "chr") (by kernel_rfl) (by kernel_rfl) (by decide) hkind (by decide) ?_)
  cases args with
  | nil => exact absurd rfl hne
  | cons e rest =>
    rw [List.all_cons, Bool.and_eq_true] at hs
    refine callWith_builtin1 (wpAny_mono hw (fun vs s₁ x => ?_) fun _ _ x => x) (star_off hs.1) (plain_off pos hs.2)
    obtain ⟨fz₁, sb, h₁, hv, hq⟩ := x
    unfold chrV at hr
    split at hr
    case h_1 n =>
      obtain ⟨hx, rfl⟩ := Prod.mk.inj (Option.some.inj hr)
      simp only [Bool.and_eq_true, decide_eq_true_eq] at hx
      cases hv with
      | cons hv hn =>
        cases hn
        cases hv with
        | int i t => exact chr_of_range hx.1 hx.2 (hq fz₁ _ _ (fun _ h => h) (h₁.toks _) (.str _ _))
    case h_2 => cases hr
end
noncomputable def signLit : List Nat := [39, 34, 92, 32, 9, 13, 10, 35, 120, 97, 55, 95, 40, 41, 59, 60, 62, 124, 38, 45, 126, 61, 43, 64, 233, 247, 160, 47]
noncomputable def signL (x : Int) : List Nat := if x.fmod 32 < 28 then [signLit.getD (x.fmod 32).toNat 0] else if x.fmod 32 = 28 then [] else
  [((if (x.fdiv 32).fmod 1112064 < 55296 then (x.fdiv 32).fmod 1112064 else (x.fdiv 32).fmod 1112064 + 2048)).toNat]
end
theorem sign_t (O : Type) (L : Addr) (cd : Value) (o : O) (n : Int) : execBK brO (pureI O (locs (fscope (stAt 21))) [("chr", chrV)]) (envOf "_law_sign" (fscope (stAt 21)) L 733 cd) none 60 o [("x", .int n)] (fbody (stAt 21)) (fun o _ fl => some (o, fl)) =
  bif decide (Int.fmod n 32 < 28) then
    bif true && decide (-Nat.cast (Str.length (ofString "'\"\\ \t\x0d\n#xa7_();<>|&-~=+@\u00e9\u00f7\u00a0/")) ≤ Int.fmod n 32) && decide (Int.fmod n 32 < Nat.cast (Str.length (ofString "'\"\\ \t\x0d\n#xa7_();<>|&-~=+@\u00e9\u00f7\u00a0/"))) then some (o, Fl.ret (Dat.str (Txt.item (ofString "'\"\\ \t\x0d\n#xa7_();<>|&-~=+@\u00e9\u00f7\u00a0/") (Int.fmod n 32)))) else none
  else
    bif Int.fmod n 32 == 28 then some (o, Fl.ret (Dat.str (ofString "")))
    else
      bif decide (Int.fmod (Int.fdiv n 32) 1112064 < 55296) then
        bif decide (0 ≤ Int.fmod (Int.fdiv n 32) 1112064) && decide (Int.fmod (Int.fdiv n 32) 1112064 ≤ 1114111) then some (o, Fl.ret (Dat.str (S [Int.toNat (Int.fmod (Int.fdiv n 32) 1112064)]))) else none
      else bif decide (0 ≤ Int.fmod (Int.fdiv n 32) 1112064 + 2048) && decide (Int.fmod (Int.fdiv n 32) 1112064 + 2048 ≤ 1114111) then some (o, Fl.ret (Dat.str (S [Int.toNat (Int.fmod (Int.fdiv n 32) 1112064 + 2048)]))) else none := by kernel_rfl
theorem lit_sign : (ofString "'\"\\ \t\x0d\n#xa7_();<>|&-~=+@\u00e9\u00f7\u00a0/") = S signLit := by decide +kernel
theorem sign_run (O : Type) (L : Addr) (cd : Value) (o : O) (n : Int) : execBK brO (pureI O (locs (fscope (stAt 21))) [("chr", chrV)]) (envOf "_law_sign" (fscope (stAt 21)) L 733 cd) none 60 o [("x", .int n)] (fbody (stAt 21)) (fun o _ fl => some (o, fl)) = some (o, .ret (.str (S (signL n)))) := by
  rw [sign_t, lit_sign]
  have h0 : 0 ≤ n.fmod 32 := Int.fmod_nonneg_of_pos n (by decide)
  have h1 : n.fmod 32 < 32 := Int.fmod_lt_of_pos n (by decide)
  have g0 : 0 ≤ (n.fdiv 32).fmod 1112064 := Int.fmod_nonneg_of_pos _ (by decide)
  have g1 : (n.fdiv 32).fmod 1112064 < 1112064 := Int.fmod_lt_of_pos _ (by decide)
  unfold signL
  by_cases hl : n.fmod 32 < 28
  · obtain ⟨k, hk⟩ := Int.eq_ofNat_of_zero_le h0
    rw [hk] at hl h1 ⊢
    have hk' : k < signLit.length := by show k < 28; omega
    rw [if_pos hl, len_S]
    simp only [decide_eq_true hl, cond_true]
    rw [item_S hk', decide_eq_true (show -(signLit.length : Int) ≤ (k : Int) by omega), decide_eq_true (show (k : Int) < (signLit.length : Int) by omega)]
    simp [hk', List.getD]
  · rw [if_neg hl]
    simp only [decide_eq_false hl, cond_false]
    by_cases h28 : n.fmod 32 = 28
    · rw [if_pos h28, h28]; rfl
    · rw [if_neg h28]
      simp only [show (n.fmod 32 == 28) = false by simpa using h28, cond_false]
      by_cases hc : (n.fdiv 32).fmod 1112064 < 55296
      · rw [if_pos hc, decide_eq_true hc, decide_eq_true g0, decide_eq_true (show (n.fdiv 32).fmod 1112064 ≤ 1114111 by omega)]; rfl
      · rw [if_neg hc, decide_eq_false hc, decide_eq_true (show 0 ≤ (n.fdiv 32).fmod 1112064 + 2048 by omega), decide_eq_true (show (n.fdiv 32).fmod 1112064 + 2048 ≤ 1114111 by omega)]; rfl
section
variable {prog : Program} {w : World} {P : Params} {p : Program} {loose : List Str} {mean : ExcName → Option Value} {mg mb : Str → Option Value} {A₀ : Around} {base : Heap} {outer : List Env} {A : Around} {env : Env}
theorem sign_keep {h₀ : Heap} {L : Addr} {d : Nat} (R : Rim (K02 P) p loose mean mg mb A₀ base outer A env h₀ L (d + 1)) {s : Shared} {m : Str → Option Value} (F : Fr h₀ L s.heap m) {n : Int} {tk : Tok} {Q E : Value → Shared → Prop}
    (hq : ∀ s' u, Keeps s s' → Q (.str (S (signL n)) u) s') : wpAny (model prog w) A (call (.ref 733) [.int n tk]) Q E s := by
  refine call_keep (xs := ["x"]) (ds := [.int n]) (r := .str (S (signL n))) R F (f := 733) (name := "_law_sign") (dV := .none) (kV := .none) (doc := .none) (pm := .str "law_in0035_02" 1142) (an := none) (ct := .none) (oc := .type "function") (od := none) (osl := #[]) (qual := "_law_sign") (scope := fscope (stAt 21)) (params := fpar (stAt 21)) (body := fbody (stAt 21)) (cdv := .ref 732)
    (by kernel_rfl) (by kernel_rfl) (BindsTo.of_eq (by kernel_rfl)) (by decide +kernel) (by decide +kernel) rfl (by kernel_rfl) (by kernel_rfl) (by kernel_rfl) (by decide +kernel) (.cons (.int _ _) .nil) (fun fz v h => by cases h; exact .str _ _) (fun {C A₀ base outer A L} hr R' hL => ?_) (fun s' v hk hv => by cases hv; exact hq s' _ hk)
  have hn : ∀ x ∈ locs (fscope (stAt 21)), (envOf "_law_sign" (fscope (stAt 21)) L 733 (.ref 732)).kindOf x = some .local := by
    have : ∀ x ∈ locs (fscope (stAt 21)), (envOf "_law_sign" (fscope (stAt 21)) 0 733 (.ref 732)).kindOf x = some .local := by decide +kernel
    exact this
  have IK := pureI_ok (prog := prog) (w := w) (C := C) (X := fun _ _ _ _ => False) (names := locs (fscope (stAt 21))) (callT := [("chr", chrV)]) R' hn (fun _ hq => by rw [hr] at hq; cases hq) (fun y hy => by
    rcases List.mem_cons.mp hy with rfl | hy
    · exact ⟨chr_pure _, by kernel_rfl⟩
    · cases hy)
  obtain ⟨⟨o₂, ρ'', fl⟩, hB, e⟩ := (execK_ok IK 60).2 _ _ _ _ (sign_run Unit L (.ref 732) () n)
  obtain ⟨rfl, rfl⟩ : o₂ = () ∧ fl = .ret (.str (S (signL n))) := by simpa using e
  exact ⟨ρ'', hB⟩
end
noncomputable def intsV (l : List Int) : V := .list (l.map .int)
noncomputable def natsV (l : List Nat) : V := intsV (l.map fun (k : Nat) => (k : Int))
theorem datAll_get {fz : Led} : ∀ {vs : List Value} {ns : List Int}, DatAll fz vs (ns.map .int) → ∀ i (h : i < ns.length), ∃ t, vs[i]? = some (.int ns[i] t) := by
  intro vs ns
  induction ns generalizing vs with
  | nil => intro _ i h; exact absurd h (Nat.not_lt_zero _)
  | cons n ns ih =>
    intro h i hi
    obtain ⟨v, us, rfl, a, b⟩ := datAll_more h
    cases i with
    | zero => obtain ⟨t, rfl⟩ := vr_int a; exact ⟨t, rfl⟩
    | succ i => exact ih b i (Nat.lt_of_succ_lt_succ hi)
theorem datAll_sc {fz fz' : Led} : ∀ {vs : List Value} {ds : List V}, (∀ d ∈ ds, ∀ v, VR fz d v → VR fz' d v) → DatAll fz vs ds → DatAll fz' vs ds := by
  intro vs ds
  induction ds generalizing vs with
  | nil => intro _ h; rw [datAll_nil h]; exact .nil
  | cons d ds ih => intro hs h; obtain ⟨v, us, rfl, a, b⟩ := datAll_more h; exact .cons (hs _ (.head _) _ a) (ih (fun d hd => hs d (.tail _ hd)) b)
theorem paired_from {p : Nat → Bool} {G : Nat → V} {p' : Value → Bool} {F : Value → Value → Prop} (hp : ∀ (k : Nat) t, p' (.int (k : Int) t) = p k) (hF : ∀ (k : Nat) t y, F (.int (k : Int) t) y → VR [] (G k) y) :
    ∀ (vs : List Value) (ks : List Nat), vs.length = ks.length → (∀ (j : Nat) v, vs[j]? = some v → ∃ k t, ks[j]? = some k ∧ v = .int (k : Int) t) → ∀ ys, Paired F (vs.filter p') ys → DatAll [] ys ((ks.filter p).map G)
  | [], [], _, _, ys, h => by cases h; exact .nil
  | v :: vs, k :: ks, hl, hP, ys, h => by
    obtain ⟨k', t, e1, rfl⟩ := hP 0 v rfl
    obtain rfl : k = k' := by simpa using e1
    have hP' : ∀ (j : Nat) v, vs[j]? = some v → ∃ k t, ks[j]? = some k ∧ v = .int (k : Int) t := fun j v hj => hP (j + 1) v (by simpa using hj)
    have hl' : vs.length = ks.length := by simpa using hl
    rw [List.filter_cons] at h ⊢
    rw [hp] at h
    by_cases q : p k = true
    · rw [if_pos q] at h ⊢
      rw [List.map_cons]
      cases h with
      | cons h1 h2 => exact .cons (hF _ _ _ h1) (paired_from hp hF vs ks hl' hP' _ h2)
    · rw [if_neg q] at h ⊢
      exact paired_from hp hF vs ks hl' hP' _ h
section
variable {prog : Program} {w : World} {P : Params} {p : Program} {loose : List Str} {mean : ExcName → Option Value} {mg mb : Str → Option Value} {A₀ : Around} {base : Heap} {outer : List Env} {A : Around} {L fa : Addr} {cd : Value} {s₀ : Shared} {h₀ : Heap} {rest : Led} {refs : List (Str × Value)}
theorem At.grow {O : Type} {C : Cx O} {o : O} {ρ : Loc} {fz : Led} {s : Shared} (h : At C o ρ fz s) {h' : Heap} {D : Addr} {ob : Obj} (hk : ∀ b o, s.heap.get? b = some o → h'.get? b = some o) (hD : s.heap.get? D = none) (ho : h'.get? D = some ob) (tk : Nat) :
    At C o ρ ((D, ob) :: fz) { s with heap := h', toks := tk } := by
  obtain ⟨hp, tk', m, R, rfl, F, N, rp, ap, lc, rf⟩ := h
  have hDL : D ≠ C.L := by
    obtain ⟨oL, _, _, hL, _⟩ := F.ns
    rintro rfl
    rw [hL] at hD; cases hD
  refine ⟨h', tk, m, R, rfl, F.keeps hk, fun q hq => ?_, C.mono _ _ _ _ (fun p hp => .tail _ hp) rp, fun q hq r hr => ?_, fun x v hx => ?_, rf⟩
  · have hq' : q ∈ R ++ (fz ++ C.rest) ∨ q = (D, ob) := by
      simp only [List.mem_append, List.mem_cons, List.cons_append] at hq ⊢
      rcases hq with hq | rfl | hq | hq
      · exact .inl (.inl hq)
      · exact .inr rfl
      · exact .inl (.inr (.inl hq))
      · exact .inl (.inr (.inr hq))
    rcases hq' with hq' | rfl
    · exact ⟨hk _ _ (N q hq').1, (N q hq').2⟩
    · refine ⟨ho, hDL, ?_⟩
      cases e : C.h₀.get? D with
      | none => rfl
      | some o' => have := F.keep D o' e; rw [hD] at this; cases this
  · simp only [List.cons_append, List.mem_cons] at hr
    rcases hr with rfl | hr
    · rintro e
      have := (N q (List.mem_append_left _ hq)).1
      rw [e, hD] at this; cases this
    · exact ap q hq r hr
  · obtain ⟨v', h1, h2⟩ := lc x v hx
    exact ⟨v', h1, DatIn.mono (fun p hp => .tail _ hp) h2⟩
theorem At.keep {O : Type} {C : Cx O} {o : O} {ρ : Loc} {fz : Led} {s : Shared} (h : At C o ρ fz s) {h' : Heap} (hk : ∀ b o, s.heap.get? b = some o → h'.get? b = some o) (tk : Nat) : At C o ρ fz { s with heap := h', toks := tk } :=
  h.ext (fun b o _ e => hk b o e) tk
theorem num_at {o : LC} {ns : List Int} (hn : o.numbers = some (intsV ns)) {ρ : Loc} {fz : Led} {s : Shared} (h : At (lawCx s₀ h₀ L rest refs) o ρ fz s) :
    ∃ DN on vs m, Fr h₀ L s.heap m ∧ s.heap.get? (L + 1) = some on ∧ on.data = .cell (some (.ref DN)) ∧ s.heap.IsList DN vs.toArray ∧ DatAll fz vs (ns.map .int) ∧ (∃ k, (DN, ({ cls := .type "list", data := .seq vs.toArray k } : Obj)) ∈ fz) := by
  obtain ⟨h', tk, m, R, rfl, F, N, rp, ap, lc, rf⟩ := id h
  obtain ⟨ob, on, rfl, h1, h2⟩ := (rp : lawRep L o fz R)
  rw [hn] at h1
  obtain ⟨v, e, x⟩ := h1
  cases x with
  | @list a vs n _ hm hv =>
    exact ⟨a, on, vs, m, F, (N (L + 1, on) (by simp)).1, e, ⟨_, (N _ (List.mem_append_right _ (List.mem_append_left _ hm))).1, rfl, n, rfl⟩, hv, n, hm⟩
theorem bel_at {o : LC} {ns : List Int} (hn : o.below = some (intsV ns)) {ρ : Loc} {fz : Led} {s : Shared} (h : At (lawCx s₀ h₀ L rest refs) o ρ fz s) :
    ∃ DN on vs m, Fr h₀ L s.heap m ∧ s.heap.get? (L + 2) = some on ∧ on.data = .cell (some (.ref DN)) ∧ s.heap.IsList DN vs.toArray ∧ DatAll fz vs (ns.map .int) ∧ (∃ k, (DN, ({ cls := .type "list", data := .seq vs.toArray k } : Obj)) ∈ fz) := by
  obtain ⟨h', tk, m, R, rfl, F, N, rp, ap, lc, rf⟩ := id h
  obtain ⟨ob, on, rfl, h1, h2⟩ := (rp : lawRep L o fz R)
  rw [hn] at h2
  obtain ⟨v, e, x⟩ := h2
  cases x with
  | @list a vs n _ hm hv =>
    exact ⟨a, ob, vs, m, F, (N (L + 2, ob) (by simp)).1, e, ⟨_, (N _ (List.mem_append_right _ (List.mem_append_left _ hm))).1, rfl, n, rfl⟩, hv, n, hm⟩
theorem num_item {env : Env} (hk : env.scope.kind = .function) (hN : env.kindOf (ofString "numbers") = some .cell) (hc : env.cells.lookup (ofString "numbers") = some (L + 1)) (hkk : env.kindOf (ofString "k") = some .local)
    {s : Shared} {m : Str → Option Value} (hns : s.heap.Ns env.locals m) {k : Nat} {t : Tok} (hm : m (ofString "k") = some (.int (k : Int) t)) {DN : Addr} {on : Obj} {vs : List Value} (ho : s.heap.get? (L + 1) = some on) (hd : on.data = .cell (some (.ref DN))) (hl : s.heap.IsList DN vs.toArray)
    {fz : Led} {ns : List Int} (hv : DatAll fz vs (ns.map .int)) (hlt : k < ns.length) {q1 q2 q3 : Pos} (hz : ns.length ≤ 1000) {Q E : Value → Shared → Prop} (hq : ∀ u, Q (.int ns[k] u) s) :
    wpAny (model prog w) A (eval (.Subscript (.Name (ofString "numbers") q1) (.Name (ofString "k") q2) q3) env) Q E s := by
  obtain ⟨u, hu⟩ := datAll_get hv k hlt
  refine Subscript_ (wpAny_Name (wpAny_loadName_cell hk hN hc ⟨on, ho, hd⟩ ?_) (by decide))
  refine wpAny_Name (wpAny_loadName_local hk hkk hns hm ?_) (by decide)
  exact item_list hl (by omega) (by have : (k : Int) < 1000 := by omega
                                    exact Int.lt_trans this (by decide)) (by simpa using hu) (hq u) (sub_plain rfl _ _) (fun r => rfl)
theorem comp_end {C : Cx LC} {o : LC} {ρ : Loc} {fz : Led} {s₁ s₂ : Shared} {I : Addr} (h₁ : At C o ρ fz s₁) (hs₂ : ∃ ob, s₂ = { s₁ with heap := s₁.heap.push ob }) (hI : I = s₁.heap.objs.size) {ds : List V} {D : Addr} {h' : Heap} {tk : Nat} {ys : Array Value}
    (hD : s₂.heap.get? D = none) (hpl : h'.PlainList D ys) (hd : DatAll [] ys.toList ds) (hk : ∀ b o, b ∉ [I] → s₂.heap.get? b = some o → h'.get? b = some o) {Q : Value → Shared → Prop}
    (hq : ∀ fz' s' v, Sub fz fz' → At C o ρ fz' s' → VR fz' (.list ds) v → Q v s') : Q (.ref D) { s₂ with heap := h', toks := tk } := by
  obtain ⟨ob, rfl⟩ := hs₂
  obtain ⟨n, ho⟩ := hpl
  have keep : ∀ b o, s₁.heap.get? b = some o → h'.get? b = some o := fun b o e => hk b o (fun hm => by
    rw [List.mem_singleton.mp hm, hI] at e
    exact absurd (Heap.lt_size e) (Nat.lt_irrefl _)) (Heap.get?_push_of_some _ e)
  have hD1 : s₁.heap.get? D = none := by
    cases e : s₁.heap.get? D with
    | none => rfl
    | some o' => have := Heap.get?_push_of_some ob e; rw [this] at hD; cases hD
  have hA := h₁.grow keep hD1 ho tk
  refine hq _ _ _ (fun p hp => .tail _ hp) hA (.list (vs := ys.toList) (n := n) (by rw [Array.toArray_toList]; exact .head _) ?_)
  exact hd.mono fun p hp => by cases hp
structure TurnAt (s₁ s₃ : Shared) (env : Env) (C' : Addr) (m₃ : Str → Option Value) (k : Nat) (t : Tok) : Prop where
  ns : s₃.heap.Ns C' m₃
  k : m₃ (ofString "k") = some (.int (k : Int) t)
  keep : ∀ b o, s₁.heap.get? b = some o → s₃.heap.get? b = some o
theorem ev_lenL {O : Type} {C : Cx O} {env : Env} {d : Nat} (R : Rim (K02 P) p loose mean mg mb A₀ base outer A env C.h₀ C.L d) (hl : env.kindOf (ofString "len") = some .globalImplicit) {o : O} {ρ : Loc} {e : PySem.Expr} {ds : List V} (he : EvOk prog w A C o env ρ e (.list ds)) (hs : notStar e = true) (hz : ds.length ≤ 1000) {q1 q2 : Pos} :
    EvOk prog w A C o env ρ (.Call (.Name (ofString "len") q1) [e] [] q2) (.int (ds.length : Int)) := by
  intro fz s Q E h hq
  refine Call_Name rfl (blt_name R h (v := .builtin "len") (by kernel_rfl) (by kernel_rfl) (by decide) hl (by decide) ?_)
  refine callWith_builtin1 ((evs_cons hs he evs_nil) q2 fz s _ E h fun fz₁ s₁ vs s1 h1 x1 => ?_) (star_off hs) rfl
  cases x1 with
  | cons v1 r1 =>
    cases r1
    cases v1 with
    | @list a vs n _ hm hv =>
      obtain ⟨h', tk, m, R', rfl, F, N, rp, ap, lc, rf⟩ := id h1
      have hlist : h'.IsList a vs.toArray := ⟨_, (N _ (List.mem_append_right _ (List.mem_append_left _ hm))).1, rfl, n, rfl⟩
      have hlen : vs.length = ds.length := hv.length
      refine len_list (s := { heap := h', gens := C.s₀.gens, drawn := C.s₀.drawn, toks := tk, os := C.s₀.os }) hlist (by simp [hlen]; lia) ?_
      have e : ((vs.toArray.size : Nat) : Int) = (ds.length : Int) := by simp [hlen]
      rw [e]
      exact hq fz₁ _ _ s1 (h1.toks _) (.int _ _)
theorem comp_range {d : Nat} (R : Rim (K02 P) p loose mean mg mb A₀ base outer A (lwE L fa cd) h₀ L d) {o : LC} {ns : List Int} (hn : o.numbers = some (intsV ns)) (hz : ns.length ≤ 1000)
    {elt : PySem.Expr} {ifs : List PySem.Expr} {scope : Scope} {cl : List (Str × Addr)} {q0 q1 q2 q3 q4 q5 pos : Pos} (pt : Nat → Bool) (G : Nat → V) {ρ : Loc}
    (hclos : closureFor scope (lwE L fa cd) = pure cl) (hcell : ∀ y ∈ scope.names, y.2 ≠ .cell) (hkind : scope.kind = .function) (hnames : ∀ y ∈ scope.names, y.2 = .local → scope.names.lookup y.1 = some .local) (hx : scope.names.lookup (ofString "k") = some .local)
    (htest : ∀ fz s₁, At (lawCx s₀ h₀ L rest refs) o ρ fz s₁ → ∀ C' s₃ m₃ k t E', k < ns.length → TurnAt s₁ s₃ (compEnvC scope cl C' (lwE L fa cd)) C' m₃ k t →
      wpAny (model prog w) A (forIn ifs true fun c r => if r = true then do let ok ← isTrue c (compEnvC scope cl C' (lwE L fa cd)) (eval c (compEnvC scope cl C' (lwE L fa cd))); pure (ForInStep.yield ok) else pure (ForInStep.yield r)) (fun ok s₄ => ok = pt k ∧ Keeps s₃ s₄) E' s₃)
    (helt : ∀ fz s₁, At (lawCx s₀ h₀ L rest refs) o ρ fz s₁ → ∀ C' s₃ m₃ k t E', k < ns.length → pt k = true → TurnAt s₁ s₃ (compEnvC scope cl C' (lwE L fa cd)) C' m₃ k t →
      wpAny (model prog w) A (eval elt (compEnvC scope cl C' (lwE L fa cd))) (fun y s₄ => VR [] (G k) y ∧ Keeps s₃ s₄) E' s₃) :
    EvOk prog w A (lawCx s₀ h₀ L rest refs) o (lwE L fa cd) ρ (.ListComp elt [⟨.Name (ofString "k") q0, .Call (.Name (ofString "range") q1) [.Call (.Name (ofString "len") q2) [.Name (ofString "numbers") q3] [] q4] [] q5, ifs, 0⟩] scope pos) (.list (((List.range ns.length).filter pt).map G)) := by
  intro fz s Q E h hq
  refine wpAny_ListComp_free (fun v => match v with | .int a _ => pt a.toNat | _ => false) (fun v y => ∃ (k : Nat) (t : Tok), v = .int (k : Int) t ∧ VR [] (G k) y) hclos hcell hkind hnames hx ?_ (fun _ => rfl)
  have hlenE := ev_lenL (prog := prog) (w := w) (P := P) R (by kernel_rfl) (ev_numbers (prog := prog) (w := w) (A := A) (fa := fa) (cd := cd) (s₀ := s₀) (h₀ := h₀) (rest := rest) (refs := refs) hn (ρ := ρ) (p := q3)) rfl (by simpa using hz) (q1 := q2) (q2 := q4)
  rw [List.length_map] at hlenE
  refine Call_Name rfl (blt_name R h (v := .type "range") (by kernel_rfl) (by kernel_rfl) (by decide) (by kernel_rfl) (by decide) ?_)
  refine PyProof.Rows.callWith_type1 ((evs_cons rfl hlenE evs_nil) q5 fz s _ E h fun fz₁ s₁ vs s1 h1 x1 => ?_) rfl rfl
  cases x1 with
  | cons v1 r1 =>
    cases r1
    cases v1 with
    | int _ t =>
      refine call_range_1 ?_
      have h2 := (h1.push { cls := .type "range", data := .fields #[.int 0 s₁.toks, .int (ns.length : Int) t, .int 1 (s₁.toks + 1)] }).toks (s₁.toks + 1 + 1)
      have s2 : Sub fz ((s₁.heap.objs.size, ({ cls := .type "range", data := .fields #[.int 0 s₁.toks, .int (ns.length : Int) t, .int 1 (s₁.toks + 1)] } : Obj)) :: fz₁) := fun p hp => .tail _ (s1 p hp)
      generalize hs₂ : ({ s₁ with heap := s₁.heap.push { cls := .type "range", data := .fields #[.int 0 s₁.toks, .int (ns.length : Int) t, .int 1 (s₁.toks + 1)] }, toks := s₁.toks + 1 + 1 } : Shared) = s₂
      have h2 : At (lawCx s₀ h₀ L rest refs) o ρ ((s₁.heap.objs.size, ({ cls := .type "range", data := .fields #[.int 0 s₁.toks, .int (ns.length : Int) t, .int 1 (s₁.toks + 1)] } : Obj)) :: fz₁) s₂ := hs₂ ▸ h2
      have hr : IsRange s₂.heap s₁.heap.objs.size 0 (ns.length : Int) 1 s₁.toks t (s₁.toks + 1) := by rw [← hs₂]; exact IsRange.new ..
      have hsz : Builtin.Range.rangeSize 0 (ns.length : Int) 1 = (ns.length : Int) := by rw [rangeSize_one]; split <;> lia
      refine wpAny_pyIter_range hr (small_one (by decide) (by decide) (by lia) (Int.lt_trans (show (ns.length : Int) < 1001 by lia) (by decide))) ?_
      refine ⟨s₂.heap.objs.size, [s₂.heap.objs.size], [s₂.heap.objs.size], ns.length, _, _, rfl, (LCg.range_walks R.hh 0 ns.length).bound, by rw [sizeLine_eq]; lia, ?_, ?_, ⟨?_, ?_⟩, ?_⟩
      · show IsRangeIter _ _ (0 + ((0 : Nat) : Int) * 1) ((ns.length : Int) - ((0 : Nat) : Int)) 1
        rw [hsz]
        simpa using Heap.get?_push_size _ rfl
      · intro b hb
        rw [List.mem_singleton.mp hb, Heap.size_push]; exact Nat.lt_succ_self _
      · intro C' i v s₃ m₃ E' _ hP hns hm hold _
        obtain ⟨hi, t, rfl⟩ := hP
        have e : (0 : Int) + (i : Int) = (i : Int) := by lia
        rw [e] at hm ⊢
        exact htest _ s₂ h2 C' s₃ m₃ i t E' hi ⟨hns, hm, fun b o e => hold b o (fun hb => by rw [List.mem_singleton.mp hb] at e; exact absurd (Heap.lt_size e) (Nat.lt_irrefl _)) (Heap.get?_push_of_some _ e)⟩
      · intro C' i v s₃ m₃ E' _ hP hp hns hm hold _
        obtain ⟨hi, t, rfl⟩ := hP
        have e : (0 : Int) + (i : Int) = (i : Int) := by lia
        rw [e] at hm hp ⊢
        refine wpAny_mono (helt _ s₂ h2 C' s₃ m₃ i t E' hi hp ⟨hns, hm, fun b o e => hold b o (fun hb => by rw [List.mem_singleton.mp hb] at e; exact absurd (Heap.lt_size e) (Nat.lt_irrefl _)) (Heap.get?_push_of_some _ e)⟩) (fun y s₄ hy => ?_) fun _ _ e => e
        exact ⟨⟨i, t, rfl, hy.1⟩, hy.2⟩
      · intro D h' tk ys vs hD _ hpl hlen hP hF hk
        refine comp_end h2 ⟨_, rfl⟩ rfl hD hpl ?_ hk fun fz' s' v sb hA hv => hq fz' s' v (fun p hp => sb p (s2 p hp)) hA hv
        refine paired_from (p := pt) (G := G) ?_ ?_ vs (List.range ns.length) (by simpa using hlen) ?_ _ hF
        · intro k t; rfl
        · rintro k t y ⟨k', t', e, hv⟩
          cases e; exact hv
        · intro j v hj
          obtain ⟨_, t, rfl⟩ := hP j v hj
          have hlt : j < ns.length := by rw [← hlen]; exact (List.getElem?_eq_some_iff.mp hj).1
          exact ⟨j, t, by simp [hlt], by simp⟩
theorem comp_list {d : Nat} (R : Rim (K02 P) p loose mean mg mb A₀ base outer A (lwE L fa cd) h₀ L d) {o : LC} {bs : List Nat} (hn : o.below = some (natsV bs)) (hz : bs.length ≤ 1000)
    {elt : PySem.Expr} {scope : Scope} {cl : List (Str × Addr)} {q0 q1 pos : Pos} (G : Nat → V) {ρ : Loc}
    (hclos : closureFor scope (lwE L fa cd) = pure cl) (hcell : ∀ y ∈ scope.names, y.2 ≠ .cell) (hkind : scope.kind = .function) (hnames : ∀ y ∈ scope.names, y.2 = .local → scope.names.lookup y.1 = some .local) (hx : scope.names.lookup (ofString "k") = some .local)
    (helt : ∀ fz s₁, At (lawCx s₀ h₀ L rest refs) o ρ fz s₁ → ∀ C' s₃ m₃ k t E', k ∈ bs → TurnAt s₁ s₃ (compEnvC scope cl C' (lwE L fa cd)) C' m₃ k t →
      wpAny (model prog w) A (eval elt (compEnvC scope cl C' (lwE L fa cd))) (fun y s₄ => VR [] (G k) y ∧ Keeps s₃ s₄) E' s₃) :
    EvOk prog w A (lawCx s₀ h₀ L rest refs) o (lwE L fa cd) ρ (.ListComp elt [⟨.Name (ofString "k") q0, .Name (ofString "below") q1, [], 0⟩] scope pos) (.list (bs.map G)) := by
  intro fz s Q E h hq
  refine wpAny_ListComp_free (fun v => match v with | .int a _ => true | _ => false) (fun v y => ∃ (k : Nat) (t : Tok), v = .int (k : Int) t ∧ VR [] (G k) y) hclos hcell hkind hnames hx ?_ (fun _ => rfl)
  obtain ⟨DN, on, vs, m, F, g1, g2, g3, g4, g5⟩ := bel_at hn h
  have hb := ev_below (prog := prog) (w := w) (A := A) (L := L) (fa := fa) (cd := cd) (s₀ := s₀) (h₀ := h₀) (rest := rest) (refs := refs) hn (ρ := ρ) (p := q1)
  refine hb fz s _ E h fun fz₁ s₁ v s1 h1 x1 => ?_
  cases x1 with
  | @list a vs n _ hm hv =>
    obtain ⟨h', tk, mm, R', rfl, F', N', rp, ap, lc, rf⟩ := id h1
    have hlist : h'.IsList a vs.toArray := ⟨_, (N' _ (List.mem_append_right _ (List.mem_append_left _ hm))).1, rfl, n, rfl⟩
    have hlt : a < h'.objs.size := by obtain ⟨_, e, _⟩ := hlist; exact Heap.lt_size e
    have hlen : vs.length = bs.length := by have := hv.length; simpa using this
    have hget : ∀ (i : Nat) v, vs.toArray[i]? = some v → ∃ k t, bs[i]? = some k ∧ v = .int (k : Int) t := fun i v hv' => by
      have hi : i < bs.length := by
        have := (Array.getElem?_eq_some_iff.mp hv').1
        simp only [List.size_toArray] at this; lia
      obtain ⟨t, ht⟩ := datAll_get hv i (by simpa using hi)
      simp only [List.getElem?_toArray] at hv'
      rw [hv'] at ht
      refine ⟨bs[i], t, List.getElem?_eq_getElem hi, ?_⟩
      have := Option.some.inj ht
      simpa using this
    refine wpAny_pyIter_list (s := { heap := h', gens := s₀.gens, drawn := s₀.drawn, toks := tk, os := s₀.os }) hlist ?_
    refine ⟨h'.objs.size, [h'.objs.size, a], [h'.objs.size], vs.toArray.size, _, _, rfl, Walks.list R.hh _ a (Nat.ne_of_lt hlt) vs.toArray, by simp [hlen, sizeLine_eq]; lia, ⟨⟨_, Heap.get?_push_size _ rfl, rfl, rfl⟩, hlist.push _⟩, ?_, ⟨?_, ?_⟩, ?_⟩
    · intro b hb
      show b < (h'.push _).objs.size
      rw [Heap.size_push]
      rcases List.mem_cons.mp hb with rfl | hb
      · exact Nat.lt_succ_self _
      · rw [List.mem_singleton.mp hb]; exact Nat.lt_succ_of_lt hlt
    · intro C' i v s₃ m₃ E' _ hP hns hm hold _
      obtain ⟨k, t, _, rfl⟩ := hget i v hP
      exact wpAny_tests_nil ⟨rfl, s₃.heap, s₃.toks, rfl, fun _ _ e => e⟩
    · intro C' i v s₃ m₃ E' _ hP hp hns hm hold _
      obtain ⟨k, t, hk, rfl⟩ := hget i v hP
      refine wpAny_mono (helt _ _ h1 C' s₃ m₃ k t E' (List.mem_of_getElem? hk) ⟨hns, hm, fun b o e => hold b o (fun hb => by rw [List.mem_singleton.mp hb] at e; exact absurd (Heap.lt_size e) (Nat.lt_irrefl _)) (Heap.get?_push_of_some _ e)⟩) (fun y s₄ hy => ?_) fun _ _ e => e
      exact ⟨⟨k, t, rfl, hy.1⟩, hy.2⟩
    · intro D h₂ tk₂ ys vs' hD _ hpl hlen' hP hF hk
      refine comp_end h1 ⟨_, rfl⟩ rfl hD hpl (ds := bs.map G) ?_ hk fun fz' s' v sb hA hv => hq fz' s' v (fun p hp => sb p (s1 p hp)) hA hv
      have e : (bs.filter fun _ => true).map G = bs.map G := by congr 1; exact List.filter_eq_self.mpr (fun _ _ => rfl)
      rw [← e]
      refine paired_from (p := fun _ => true) (G := G) ?_ ?_ vs' bs (hlen'.trans (List.size_toArray.trans hlen)) ?_ _ hF
      · intro k t; rfl
      · rintro k t y ⟨k', t', e, hv⟩
        cases e; exact hv
      · intro j v hj
        obtain ⟨k, t, e1, e2⟩ := hget j v (hP j v hj)
        exact ⟨k, t, e1, e2⟩
end
section
noncomputable abbrev cmS1 : Scope := PySem.Scope.mk ScopeKind.function [(ofString ".0", NameKind.local), (ofString "k", NameKind.local), (ofString "numbers", NameKind.free)] false false []
noncomputable abbrev cmS2 : Scope := PySem.Scope.mk ScopeKind.function [(ofString ".0", NameKind.local), (ofString "k", NameKind.local), (ofString "_law_sign", NameKind.globalImplicit), (ofString "numbers", NameKind.free)] false false []
noncomputable abbrev cmS3 : Scope := PySem.Scope.mk ScopeKind.function [(ofString ".0", NameKind.local), (ofString "k", NameKind.local), (ofString "_law_sign", NameKind.globalImplicit), (ofString "below", NameKind.free), (ofString "numbers", NameKind.free)] false false []
theorem cm_clos1 (L fa : Addr) (cd : Value) : closureFor cmS1 (lwE L fa cd) = pure [(ofString "numbers", L + 1)] := by kernel_rfl
theorem cm_clos2 (L fa : Addr) (cd : Value) : closureFor cmS2 (lwE L fa cd) = pure [(ofString "numbers", L + 1)] := by kernel_rfl
theorem cm_clos3 (L fa : Addr) (cd : Value) : closureFor cmS3 (lwE L fa cd) = pure [(ofString "numbers", L + 1), (ofString "below", L + 2)] := by kernel_rfl
noncomputable abbrev cmItem (q1 q2 q3 : Pos) : PySem.Expr := .Subscript (.Name (ofString "numbers") q1) (.Name (ofString "k") q2) q3
noncomputable abbrev cmSign (q q1 q2 q3 q4 : Pos) : PySem.Expr := .Call (.Name (ofString "_law_sign") q) [cmItem q1 q2 q3] [] q4
section
variable {prog : Program} {w : World} {P : Params} {p : Program} {loose : List Str} {mean : ExcName → Option Value} {mg mb : Str → Option Value} {A₀ : Around} {base : Heap} {outer : List Env} {A : Around} {L fa : Addr} {cd : Value} {s₀ : Shared} {h₀ : Heap} {rest : Led} {refs : List (Str × Value)}
theorem keeps_refl (s : Shared) : Keeps s s := ⟨s.heap, s.toks, rfl, fun _ _ e => e⟩
theorem cm_sign {d : Nat} (R : Rim (K02 P) p loose mean mg mb A₀ base outer A (lwE L fa cd) h₀ L (d + 1)) {o : LC} {ns : List Int} (hn : o.numbers = some (intsV ns)) (hz : ns.length ≤ 1000) {ρ : Loc} {fz : Led} {s₁ s₃ : Shared} (h : At (lawCx s₀ h₀ L rest refs) o ρ fz s₁)
    {scope : Scope} {cl : List (Str × Addr)} {C' : Addr} {m₃ : Str → Option Value} {k : Nat} {t : Tok} (hlt : k < ns.length) (T : TurnAt s₁ s₃ (compEnvC scope cl C' (lwE L fa cd)) C' m₃ k t)
    (hk : (compEnvC scope cl C' (lwE L fa cd)).scope.kind = .function) (hN : (compEnvC scope cl C' (lwE L fa cd)).kindOf (ofString "numbers") = some .cell) (hc : cl.lookup (ofString "numbers") = some (L + 1)) (hkk : (compEnvC scope cl C' (lwE L fa cd)).kindOf (ofString "k") = some .local) (hS : (compEnvC scope cl C' (lwE L fa cd)).kindOf (ofString "_law_sign") = some .globalImplicit)
    {q q1 q2 q3 q4 : Pos} {E' : Value → Shared → Prop} : wpAny (model prog w) A (eval (cmSign q q1 q2 q3 q4) (compEnvC scope cl C' (lwE L fa cd))) (fun y s₄ => VR [] (.str (S (signL ns[k]))) y ∧ Keeps s₃ s₄) E' s₃ := by
  obtain ⟨DN, on, vs, m, F, g1, g2, g3, g4, g5⟩ := num_at hn h
  have F₃ : Fr h₀ L s₃.heap m := F.keeps T.keep
  refine Call_Name rfl (nameG_K F₃ R.X (topRead_of R.T) (by kernel_rfl : nsIn (K02 P) mainGlobals "_law_sign" = some (some (.ref 733))) ?_ rfl hk hS (by decide))
  refine callWith_K (K := K02 P) (first := []) R.X (by kernel_rfl) ?_ rfl rfl
  refine args_cons ?_ rfl
  obtain ⟨oL, hoL, hcL, n, hdL⟩ := g3
  refine num_item hk hN hc hkk T.ns T.k (T.keep _ _ g1) g2 ⟨oL, T.keep _ _ hoL, hcL, n, hdL⟩ g4 hlt hz fun u => ?_
  exact args_nil ⟨fun a o q => F₃.keep a o (R.X a o q), sign_keep R F₃ fun s' u' hk' => ⟨.str _ _, hk'⟩⟩
noncomputable abbrev cmB1 : PySem.Expr := (Expr.ListComp (Expr.Name (ofString "k") ⟨793, 13, 793, 14⟩) [Comprehension.mk (Expr.Name (ofString "k") ⟨793, 19, 793, 20⟩) (Expr.Call (Expr.Name (ofString "range") ⟨793, 24, 793, 29⟩) [Expr.Call (Expr.Name (ofString "len") ⟨793, 30, 793, 33⟩) [Expr.Name (ofString "numbers") ⟨793, 34, 793, 41⟩] [] ⟨793, 30, 793, 42⟩] [] ⟨793, 24, 793, 43⟩) [Expr.Compare (Expr.Subscript (Expr.Name (ofString "numbers") ⟨793, 47, 793, 54⟩) (Expr.Name (ofString "k") ⟨793, 55, 793, 56⟩) ⟨793, 47, 793, 57⟩) [CmpOp.Lt] [Expr.Constant (Const.int 0) 0 ⟨793, 60, 793, 61⟩] ⟨793, 47, 793, 61⟩] 0] cmS1 ⟨793, 12, 793, 62⟩)
noncomputable abbrev cmB2 : PySem.Expr := Expr.ListComp (Expr.Call (Expr.Name (ofString "_law_sign") ⟨794, 19, 794, 28⟩) [Expr.Subscript (Expr.Name (ofString "numbers") ⟨794, 29, 794, 36⟩) (Expr.Name (ofString "k") ⟨794, 37, 794, 38⟩) ⟨794, 29, 794, 39⟩] [] ⟨794, 19, 794, 40⟩) [Comprehension.mk (Expr.Name (ofString "k") ⟨794, 45, 794, 46⟩) (Expr.Name (ofString "below") ⟨794, 50, 794, 55⟩) [] 0] cmS2 ⟨794, 18, 794, 56⟩
noncomputable abbrev cmB3 : PySem.Expr := Expr.ListComp (Expr.Call (Expr.Name (ofString "_law_sign") ⟨796, 20, 796, 29⟩) [Expr.Subscript (Expr.Name (ofString "numbers") ⟨796, 30, 796, 37⟩) (Expr.Name (ofString "k") ⟨796, 38, 796, 39⟩) ⟨796, 30, 796, 40⟩] [] ⟨796, 20, 796, 41⟩) [Comprehension.mk (Expr.Name (ofString "k") ⟨796, 46, 796, 47⟩) (Expr.Call (Expr.Name (ofString "range") ⟨796, 51, 796, 56⟩) [Expr.Call (Expr.Name (ofString "len") ⟨796, 57, 796, 60⟩) [Expr.Name (ofString "numbers") ⟨796, 61, 796, 68⟩] [] ⟨796, 57, 796, 69⟩] [] ⟨796, 51, 796, 70⟩) [Expr.Compare (Expr.Name (ofString "k") ⟨796, 74, 796, 75⟩) [CmpOp.NotIn] [Expr.Name (ofString "below") ⟨796, 83, 796, 88⟩] ⟨796, 74, 796, 88⟩] 0] cmS3 ⟨796, 19, 796, 89⟩
noncomputable def negs (ns : List Int) : List Nat := (List.range ns.length).filter fun k => decide (ns.getD k 0 < 0)
theorem ev_cm1 {d : Nat} (R : Rim (K02 P) p loose mean mg mb A₀ base outer A (lwE L fa cd) h₀ L (d + 1)) {o : LC} {ns : List Int} (hn : o.numbers = some (intsV ns)) (hz : ns.length ≤ 1000) {ρ : Loc} :
    EvOk prog w A (lawCx s₀ h₀ L rest refs) o (lwE L fa cd) ρ cmB1 (natsV (negs ns)) := by
  have := comp_range (prog := prog) (w := w) (P := P) (s₀ := s₀) (rest := rest) (refs := refs) R hn hz (elt := .Name (ofString "k") ⟨793, 13, 793, 14⟩) (ifs := [Expr.Compare (Expr.Subscript (Expr.Name (ofString "numbers") ⟨793, 47, 793, 54⟩) (Expr.Name (ofString "k") ⟨793, 55, 793, 56⟩) ⟨793, 47, 793, 57⟩) [CmpOp.Lt] [Expr.Constant (Const.int 0) 0 ⟨793, 60, 793, 61⟩] ⟨793, 47, 793, 61⟩])
    (q0 := ⟨793, 19, 793, 20⟩) (q1 := ⟨793, 24, 793, 29⟩) (q2 := ⟨793, 30, 793, 33⟩) (q3 := ⟨793, 34, 793, 41⟩) (q4 := ⟨793, 30, 793, 42⟩) (q5 := ⟨793, 24, 793, 43⟩) (pos := ⟨793, 12, 793, 62⟩) (fun k => decide (ns.getD k 0 < 0)) (fun k => .int (k : Int)) (ρ := ρ) (cm_clos1 L fa cd) (by decide +kernel) rfl (by decide +kernel) (by decide +kernel)
    (fun fz s₁ h C' s₃ m₃ k t E' hlt T => ?_) (fun fz s₁ h C' s₃ m₃ k t E' hlt hp T => ?_)
  · have e : natsV (negs ns) = .list (((List.range ns.length).filter fun k => decide (ns.getD k 0 < 0)).map fun (k : Nat) => (.int (k : Int) : V)) := by
      unfold natsV intsV negs
      rw [List.map_map]; rfl
    rw [e]
    exact this
  · obtain ⟨DN, on, vs, m, F, g1, g2, g3, g4, g5⟩ := num_at hn h
    obtain ⟨oL, hoL, hcL, n, hdL⟩ := g3
    refine wpAny_tests_one (wpAny_isTrue_Compare1 (num_item rfl (by kernel_rfl) (by kernel_rfl) (by kernel_rfl) T.ns T.k (T.keep _ _ g1) g2 ⟨oL, T.keep _ _ hoL, hcL, n, hdL⟩ g4 hlt hz fun u => ?_) rfl)
    refine wpAny_Constant_int (PyProof.Rows.lt_int (wpAny_truthy_bool ⟨?_, ?_⟩))
    · simp [List.getD, hlt]
    · exact ⟨_, _, rfl, fun _ _ e => e⟩
  · refine wpAny_Name (wpAny_loadName_local rfl (by kernel_rfl) T.ns T.k ?_) (by decide)
    exact ⟨.int _ _, keeps_refl _⟩
theorem ev_cm2 {d : Nat} (R : Rim (K02 P) p loose mean mg mb A₀ base outer A (lwE L fa cd) h₀ L (d + 1)) {o : LC} {ns : List Int} {bs : List Nat} (hn : o.numbers = some (intsV ns)) (hb : o.below = some (natsV bs)) (hz : ns.length ≤ 1000) (hbz : bs.length ≤ 1000) (hbs : ∀ k ∈ bs, k < ns.length) {ρ : Loc} :
    EvOk prog w A (lawCx s₀ h₀ L rest refs) o (lwE L fa cd) ρ cmB2 (.list (bs.map fun k => .str (S (signL (ns.getD k 0))))) := by
  refine comp_list (P := P) R hb hbz _ (cm_clos2 L fa cd) (by decide +kernel) rfl (by decide +kernel) (by decide +kernel) fun fz s₁ h C' s₃ m₃ k t E' hk T => ?_
  have := cm_sign (prog := prog) (w := w) R hn hz h (hbs k hk) T rfl (by kernel_rfl) (by kernel_rfl) (by kernel_rfl) (by kernel_rfl) (q := ⟨794, 19, 794, 28⟩) (q1 := ⟨794, 29, 794, 36⟩) (q2 := ⟨794, 37, 794, 38⟩) (q3 := ⟨794, 29, 794, 39⟩) (q4 := ⟨794, 19, 794, 40⟩) (E' := E')
  have e : ns.getD k 0 = ns[k]'(hbs k hk) := by simp [List.getD, hbs k hk]
  rw [e]
  exact this
open Classical in
theorem ev_cm3 {d : Nat} (R : Rim (K02 P) p loose mean mg mb A₀ base outer A (lwE L fa cd) h₀ L (d + 1)) (hu : A.units + 64 < cLine) {o : LC} {ns : List Int} {bs : List Nat} (hn : o.numbers = some (intsV ns)) (hb : o.below = some (natsV bs)) (hz : ns.length ≤ 1000) {ρ : Loc} :
    EvOk prog w A (lawCx s₀ h₀ L rest refs) o (lwE L fa cd) ρ cmB3 (.list (((List.range ns.length).filter fun k => !decide (k ∈ bs)).map fun k => .str (S (signL (ns.getD k 0))))) := by
  refine comp_range (P := P) R hn hz _ _ (cm_clos3 L fa cd) (by decide +kernel) rfl (by decide +kernel) (by decide +kernel) (fun fz s₁ h C' s₃ m₃ k t E' hlt T => ?_) (fun fz s₁ h C' s₃ m₃ k t E' hlt hp T => ?_)
  · obtain ⟨DN, on, vs, m, F, g1, g2, g3, g4, n, g5⟩ := bel_at hb h
    obtain ⟨h', tk, m', R', rfl, F', N', rp, ap, lc, rf⟩ := id h
    have N₃ : News h₀ L s₃.heap (R' ++ (fz ++ rest)) := News.grown N' T.keep
    refine wpAny_tests_one (wpAny_isTrue_Compare1 (wpAny_Name (wpAny_loadName_local rfl (by kernel_rfl) T.ns T.k ?_) (by decide)) rfl)
    refine wpAny_Name (wpAny_loadName_cell rfl (by kernel_rfl) (by kernel_rfl : (compEnvC cmS3 _ C' (lwE L fa cd)).cells.lookup (ofString "below") = some (L + 2)) ⟨on, T.keep _ _ g1, g2⟩ ?_) (by decide)
    refine kqd_notIn N₃ (List.mem_append_right _ (List.mem_append_left _ g5)) rfl rfl g4 (fun p hp => List.mem_append_right _ (List.mem_append_left _ hp)) (DatIn.int (news := []) (k : Int) t) (fun p hp => by cases hp) (fun d hd => ?_) rfl hu ?_
    · obtain ⟨i, _, rfl⟩ := List.mem_map.mp hd; rfl
    · refine wpAny_truthy_bool ⟨?_, keeps_refl _⟩
      have : (Dat.int (k : Int) ∈ List.map Dat.int (List.map (fun (k : Nat) => (k : Int)) bs)) ↔ k ∈ bs := by
        simp only [List.mem_map, Dat.int.injEq, exists_eq_right]
        constructor
        · rintro ⟨a, ha, e⟩
          have : a = k := by lia
          exact this ▸ ha
        · exact fun h => ⟨k, h, rfl⟩
      by_cases q : k ∈ bs
      · rw [decide_eq_true q, decide_eq_true (this.mpr q)]
      · rw [decide_eq_false q, decide_eq_false (fun z => q (this.mp z))]
  · have := cm_sign (prog := prog) (w := w) R hn hz h hlt T rfl (by kernel_rfl) (by kernel_rfl) (by kernel_rfl) (by kernel_rfl) (q := ⟨796, 20, 796, 29⟩) (q1 := ⟨796, 30, 796, 37⟩) (q2 := ⟨796, 38, 796, 39⟩) (q3 := ⟨796, 30, 796, 40⟩) (q4 := ⟨796, 20, 796, 41⟩) (E' := E')
    have e : ns.getD k 0 = ns[k] := by simp [List.getD, hlt]
    simp only [e]
    exact this
end
end
theorem pick_to (vs : List Value) (k : Nat) : slicePick vs.toArray none (some (k : Int)) none = (vs.take k).toArray := by
  rw [slicePick_plain]
  have e : clipAt vs.toArray.size (k : Int) = min k vs.length := by
    unfold clipAt
    simp only [List.size_toArray]
    rw [if_neg (by omega)]
    omega
  simp only [Option.elim, e, Nat.sub_zero, List.drop_zero]
  congr 1
  exact (List.take_eq_take_min (i := k) (l := vs)).symm ▸ rfl
theorem datAll_take {fz : Led} : ∀ {vs : List Value} {ds : List V} (k : Nat), DatAll fz vs ds → DatAll fz (vs.take k) (ds.take k)
  | _, _, 0, _ => .nil
  | _, _, _ + 1, .nil => .nil
  | _, _, k + 1, .cons hv hr => .cons hv (datAll_take k hr)
section
variable {prog : Program} {w : World} {A : Around} {O : Type} {C : Cx O} {o : O} {env : Env}
theorem ev_lslice {ρ : Loc} {e : PySem.Expr} {ds : List V} (he : EvOk prog w A C o env ρ e (.list ds)) (hz : ds.length ≤ 1000) {k kk : Nat} {q1 q2 q3 : Pos} :
    EvOk prog w A C o env ρ (.Subscript e (.Slice none (some (.Constant (.int (k : Int)) kk q1)) none q2) q3) (.list (ds.take k)) := by
  intro fz s Q E h hq
  refine Subscript_ (he fz s _ E h fun fz₁ s₁ v s1 h1 x1 => wpAny_Slice (evalPart_none_step (evalPart_some_step (wpAny_Constant_int (evalPart_none_step ?_)))))
  cases x1 with
  | @list a vs n _ hm hv =>
    obtain ⟨h', tk, m, R', rfl, F, N, rp, ap, lc, rf⟩ := id h1
    have hlist : h'.IsList a vs.toArray := ⟨_, (N _ (List.mem_append_right _ (List.mem_append_left _ hm))).1, rfl, n, rfl⟩
    have hlen : vs.length = ds.length := hv.length
    refine tail_any (Heap.IsList.typeIs (s := { heap := h'.push { cls := .type "slice", data := .fields #[.none, .int (k : Int) tk, .none] }, gens := C.s₀.gens, drawn := C.s₀.drawn, toks := tk + 1, os := C.s₀.os }) (hlist.push _)) slot_list_getitem.lookup
      (wpAny_getItem_list_slice (hlist.push _) (Heap.IsSliceOf.new ..) .none (.int _ _) .none (by simp) ?_ (by simp [hlen, sizeLine_eq]; omega)) (by with_unfolding_all rfl)
    rw [pick_to]
    have h2 := (h1.push { cls := .type "slice", data := .fields #[.none, .int (k : Int) tk, .none] }).toks (tk + 1)
    have h3 := h2.push { cls := .type "list", data := .seq (vs.take k).toArray }
    refine hq _ _ _ (fun p hp => .tail _ (.tail _ (s1 p hp))) h3 (.list (.head _) ?_)
    exact (datAll_take k hv).mono fun p hp => .tail _ (.tail _ hp)
end
theorem glue_from : ∀ (ls : List (List Nat)) (a : Array Nat), (ls.map S).foldl (fun acc p => acc ++ (S []).cps ++ p.cps) a = a ++ ls.flatten.toArray
  | [], a => by simp
  | x :: r, a => by
    rw [List.map_cons, List.foldl_cons, glue_from r]
    simp
theorem join_nil (ls : List (List Nat)) : Txt.join (S []) (ls.map S) = S ls.flatten := by
  unfold Txt.join PySem.Builtin.Str.glued
  apply Str.ext'
  cases ls with
  | nil => rfl
  | cons x r =>
    rw [List.map_cons, List.drop_succ_cons, List.drop_zero]
    show ((r.map S).foldl (fun acc p => acc ++ (S []).cps ++ p.cps) (S x).cps) = _
    rw [glue_from]
    simp
theorem datAll_strs {fz : Led} : ∀ {vs : List Value} {ls : List (List Nat)}, DatAll fz vs (ls.map fun l => .str (S l)) → ∃ l : List (Str × Tok), vs = strValues l ∧ l.map (·.1) = ls.map S := by
  intro vs ls
  induction ls generalizing vs with
  | nil => intro h; exact ⟨[], datAll_nil h, rfl⟩
  | cons x ls ih =>
    intro h
    obtain ⟨v, us, rfl, a, b⟩ := datAll_more h
    obtain ⟨l, e1, e2⟩ := ih b
    obtain ⟨t, rfl⟩ := vr_str a
    exact ⟨(_, t) :: l, congrArg (List.cons _) e1, congrArg (List.cons _) e2⟩
section
variable {prog : Program} {w : World} {A : Around} {O : Type} {C : Cx O} {o : O} {env : Env}
theorem meth_eqC {c : Const} {n : Nat} {name : Str} {args : List PySem.Expr} {p p' pa : Pos} (hs : args.all notStar = true) (hk : args.length ≤ 4) (hl : (p'.endLine == p.line) = true) :
    eval (.Call (.Attribute (.Constant c n pa) name p') args [] p) env = (do
      let ov ← eval (.Constant c n pa) env
      standAt p'.atName
      let (g, first) ← holding [ov] (getMethod ov name (do return (← importBound (.Constant c n pa) env).getD true))
      callWith p g first (backTo p (starEach args env)) []) := by
  have h1 : eval (.Call (.Attribute (.Constant c n pa) name p') args [] p) env = (do
      let ov ← eval (.Constant c n pa) env
      standAt p'.atName
      methodCall (.Constant c n pa) name p' p env ov (args.length + 0) (backTo p (starEach args env)) []) := rfl
  have hf : methodCallForm (args.length + 0) (backTo p (starEach args env)) [] = true := by
    unfold methodCallForm
    have := plain_off (env := env) p hs
    simp only [List.any_eq_false] at this
    simp only [Nat.add_zero, List.isEmpty_nil, if_true, Bool.and_eq_true, List.all_eq_true, decide_eq_true_eq, List.all_nil, and_true]
    exact ⟨fun x hx => by simpa using this x hx, by lia⟩
  rw [h1]
  unfold methodCall calleeOf methodCallPos
  rw [hf, hl]
  simp only [if_true, Bool.not_true, Bool.false_or]
  rfl
theorem ev_join {ρ : Loc} {e : PySem.Expr} {ls : List (List Nat)} (he : EvOk prog w A C o env ρ e (.list (ls.map fun l => .str (S l)))) (hs : notStar e = true) (hz : ls.length ≤ 1000) (h1 : ∀ l ∈ ls, l.length ≤ 1) {kk : Nat} {q1 q2 q3 : Pos} (hl : (q2.endLine == q3.line) = true) :
    EvOk prog w A C o env ρ (.Call (.Attribute (.Constant (.str (ofString "")) kk q1) (ofString "join") q2) [e] [] q3) (.str (S ls.flatten)) := by
  intro fz s Q E h hq
  refine MethodCall_ (pl := _) (wpAny_Constant_str ?_) (meth_eqC (by simp [hs]) (by simp) hl)
  refine GM.join (callWith_more (by simp [hs]) ((evs_cons hs he evs_nil) q3 fz _ _ E (h.toks _) fun fz₁ s₁ vs s1 h1' x1 => ?_))
  cases x1 with
  | cons v1 r1 =>
    cases r1
    cases v1 with
    | @list a vs n _ hm hv =>
      obtain ⟨h', tk, m, R', rfl, F, N, rp, ap, lc, rf⟩ := id h1'
      obtain ⟨l, rfl, e2⟩ := datAll_strs hv
      have hlist : h'.IsList a (strValues l).toArray := ⟨_, (N _ (List.mem_append_right _ (List.mem_append_left _ hm))).1, rfl, n, rfl⟩
      refine SC.join (s := { heap := h', gens := C.s₀.gens, drawn := C.s₀.drawn, toks := tk, os := C.s₀.os }) hlist e2 ?_ fun t' k => ?_
      · unfold JoinOk
        rw [StrLaws.joinFits (B := 1) (fun y hy => by
          obtain ⟨l', hl', rfl⟩ := List.mem_map.mp hy
          rw [len_S]; exact h1 l' hl') (by rw [List.length_map, litnil, len_S]; simp; lia)]
        rfl
      · have e : Txt.join (ofString "") (ls.map S) = S ls.flatten := by
          rw [litnil]
          exact join_nil ls
        rw [e]
        exact hq fz₁ _ _ s1 (h1'.toks _) (.str _ _)
end
noncomputable def numsL (ns : List Int) : List Int := if ns = [] then [8, 0, 9, 3, 7, 0, 19, 2, 0, 12, 2, 8] else ns.take 60
noncomputable abbrev lwN : List Str := (locs lwS).filter fun x : Str => !(x == ("script" : Str))
noncomputable abbrev lwI : Ifc LC := pureI LC lwN []
structure Hid (P : Prop) : Prop where
  get : P
theorem mp2 {a b : Prop} : a → (a → b) → b := fun h h2 => h2 h
theorem ev_of {prog : Program} {w : World} {A : Around} {O : Type} {C : Cx O} {env : Env} {I : Ifc O} {X : Nat → Led → Shared → (Value → Shared → Prop) → Prop} {sa : Addr} (K : IfcOk prog w A C env I X sa) {n : Nat} {o : O} {ρ : Loc} {e : PySem.Expr} {v : V}
    (h : evalK brO (I.orc o) ρ none n e (fun v => some v) = some v) : EvOk prog w A C o env ρ e v := by
  obtain ⟨v', hv, e⟩ := evalK_ok (K.orc o) ρ n _ _ h
  have e := Option.some.inj e
  rw [← e]
  exact hv.1
section
variable {prog : Program} {w : World} {P : Params} {p : Program} {loose : List Str} {mean : ExcName → Option Value} {mg mb : Str → Option Value} {A₀ : Around} {base : Heap} {outer : List Env} {A : Around} {L fa : Addr} {cd : Value} {s₀ : Shared} {h₀ : Heap} {rest : Led} {l : Addr} {X : Nat → Led → Shared → (Value → Shared → Prop) → Prop}
noncomputable abbrev lwR (l : Addr) : List (Str × Value) := [(ofString "script", .ref l)]
theorem lwN_local (L fa : Addr) (cd : Value) : ∀ x ∈ lwN, (lwE L fa cd).kindOf x = some .local := by
  have : ∀ x ∈ lwN, (lwE 0 0 .none).kindOf x = some .local := by decide +kernel
  exact this
theorem lw_ok {d : Nat} (R : Rim (K02 P) p loose mean mg mb A₀ base outer A (lwE L fa cd) h₀ L d) : IfcOk prog w A (lawCx s₀ h₀ L rest (lwR l)) (lwE L fa cd) lwI X 0 :=
  pureI_ok (C := lawCx s₀ h₀ L rest (lwR l)) R (lwN_local L fa cd) (fun q hq => by
    have hq : q ∈ lwR l := hq
    simp only [List.mem_singleton] at hq; subst hq; exact (show lwN.contains (ofString "script") = false by decide +kernel)) (fun y hy => by cases hy)
theorem script_at {d : Nat} (R : Rim (K02 P) p loose mean mg mb A₀ base outer A (lwE L fa cd) h₀ L d) {o : LC} {ρ : Loc} {fz : Led} {s : Shared} {q : Pos} {Q E : Value → Shared → Prop} (h : At (lawCx s₀ h₀ L rest (lwR l)) o ρ fz s) (hq : Q (.ref l) s) :
    wpAny (model prog w) A (eval (.Name (ofString "script") q) (lwE L fa cd)) Q E s := by
  obtain ⟨h', tk, m, Rl, rfl, F, N, rp, ap, lc, rf⟩ := id h
  exact wpAny_Name (wpAny_loadName_local R.hk (by kernel_rfl) (by rw [R.hl]; exact F.ns) (rf (ofString "script", .ref l) (List.Mem.head _)) hq) (by decide)
noncomputable abbrev lwD1 : PySem.Expr := (Expr.List [Expr.Constant (Const.int 8) 0 ⟨792, 48, 792, 49⟩, Expr.Constant (Const.int 0) 0 ⟨792, 51, 792, 52⟩, Expr.Constant (Const.int 9) 0 ⟨792, 54, 792, 55⟩, Expr.Constant (Const.int 3) 0 ⟨792, 57, 792, 58⟩, Expr.Constant (Const.int 7) 0 ⟨792, 60, 792, 61⟩, Expr.Constant (Const.int 0) 0 ⟨792, 63, 792, 64⟩, Expr.Constant (Const.int 19) 0 ⟨792, 66, 792, 68⟩, Expr.Constant (Const.int 2) 0 ⟨792, 70, 792, 71⟩, Expr.Constant (Const.int 0) 0 ⟨792, 73, 792, 74⟩, Expr.Constant (Const.int 12) 0 ⟨792, 76, 792, 78⟩, Expr.Constant (Const.int 2) 0 ⟨792, 80, 792, 81⟩, Expr.Constant (Const.int 8) 0 ⟨792, 83, 792, 84⟩] ⟨792, 47, 792, 85⟩)
theorem lwD1_t (o : LC) (ρ : Loc) : evalK brO (lwI.orc o) ρ none 30 lwD1 (fun v => some v) = some (intsV [8, 0, 9, 3, 7, 0, 19, 2, 0, 12, 2, 8]) := by kernel_rfl
theorem ev_d1 {d : Nat} (R : Rim (K02 P) p loose mean mg mb A₀ base outer A (lwE L fa cd) h₀ L d) {o : LC} {ρ : Loc} : Hid (EvOk prog w A (lawCx s₀ h₀ L rest (lwR l)) o (lwE L fa cd) ρ lwD1 (intsV [8, 0, 9, 3, 7, 0, 19, 2, 0, 12, 2, 8])) := by
  constructor
  have IK := lw_ok (prog := prog) (w := w) (s₀ := s₀) (rest := rest) (l := l) (X := fun _ _ _ _ => False) R
  have h := lwD1_t o ρ
  have h2 := @ev_of prog w A LC (lawCx s₀ h₀ L rest (lwR l)) (lwE L fa cd) lwI (fun _ _ _ _ => False) 0 IK 30 o ρ lwD1 (intsV [8, 0, 9, 3, 7, 0, 19, 2, 0, 12, 2, 8])
  revert h h2
  generalize evalK brO (lwI.orc o) ρ none 30 lwD1 (fun v => some v) = u
  exact mp2
theorem ints_datAll {vs : List Value} {ns : List Int} (hi : IntsAre vs ns) (fz : Led) : DatAll fz vs (ns.map .int) := by
  induction hi with
  | nil => exact .nil
  | cons n t h ih => exact .cons (.int _ _) ih
theorem ev_sl1 {d : Nat} (R : Rim (K02 P) p loose mean mg mb A₀ base outer A (lwE L fa cd) h₀ L d) {vs : List Value} {ns : List Int} (hl : h₀.IsList l vs.toArray) (hi : IntsAre vs ns) (hz : ns.length ≤ 1000) {o : LC} {ρ : Loc} {q1 q2 q3 q4 : Pos} :
    EvOk prog w A (lawCx s₀ h₀ L rest (lwR l)) o (lwE L fa cd) ρ (Expr.Subscript (Expr.Name (ofString "script") q1) (Expr.Slice none (some (Expr.Constant (Const.int 60) 0 q2)) none q3) q4) (intsV (ns.take 60)) := by
  intro fz s Q E h1 hq
  have hlen := hi.length
  refine Subscript_ (script_at R h1 (wpAny_Slice (evalPart_none_step (evalPart_some_step (wpAny_Constant_int (evalPart_none_step ?_))))))
  obtain ⟨h', tk, m, R', rfl, F, N, rp, ap, lc, rf⟩ := id h1
  have hl' : h'.IsList l vs.toArray := by obtain ⟨ob, e, r⟩ := hl; exact ⟨ob, F.keep _ _ e, r⟩
  refine tail_any (Heap.IsList.typeIs (s := { heap := h'.push { cls := .type "slice", data := .fields #[.none, .int ((60 : Nat) : Int) tk, .none] }, gens := s₀.gens, drawn := s₀.drawn, toks := tk + 1, os := s₀.os }) (hl'.push _)) slot_list_getitem.lookup
    (wpAny_getItem_list_slice (hl'.push _) (Heap.IsSliceOf.new ..) .none (.int ((60 : Nat) : Int) tk) .none (by simp) ?_ (by simp [hlen, sizeLine_eq]; lia)) (by with_unfolding_all rfl)
  rw [pick_to]
  have h2 := (h1.push { cls := .type "slice", data := .fields #[.none, .int ((60 : Nat) : Int) tk, .none] }).toks (tk + 1)
  have h3 := h2.push { cls := .type "list", data := .seq (vs.take 60).toArray }
  exact hq _ _ _ (fun p hp => .tail _ (.tail _ hp)) h3 (.list (.head _) (ints_datAll (hi.take 60) _))
theorem tr_t1 {d : Nat} (R : Rim (K02 P) p loose mean mg mb A₀ base outer A (lwE L fa cd) h₀ L d) (hu : A.units + 64 < cLine) {vs : List Value} {ns : List Int} (hl : h₀.IsList l vs.toArray) (hi : IntsAre vs ns) {o : LC} {ρ : Loc} {q1 q2 q3 : Pos} :
    TrOk prog w A (lawCx s₀ h₀ L rest (lwR l)) o (lwE L fa cd) ρ (Expr.Compare (Expr.Name (ofString "script") q1) [CmpOp.NotEq] [Expr.List [] q2] q3) (!decide (ns = [])) := by
  intro fz s Q E h hq
  refine wpAny_isTrue_Compare1 (script_at R h ?_) rfl
  refine (ev_list evs_nil (by simp)) fz s _ E h fun fz₁ s₁ v s1 h1 x1 => ?_
  cases x1 with
  | @list a ws n _ hm hv =>
    cases hv
    obtain ⟨h', tk, m, R', rfl, F, N, rp, ap, lc, rf⟩ := id h1
    have hl' : h'.IsList l vs.toArray := by obtain ⟨ob, e, r⟩ := hl; exact ⟨ob, F.keep _ _ e, r⟩
    have hnil : h'.IsList a ([] : List Value).toArray := ⟨_, (N _ (List.mem_append_right _ (List.mem_append_left _ hm))).1, rfl, n, rfl⟩
    exact ke_ne_ints (s := { heap := h', gens := s₀.gens, drawn := s₀.drawn, toks := tk, os := s₀.os }) hl' hnil hi .nil hu (wpAny_truthy_bool (hq fz₁ _ s1 h1))
theorem numsL_if (ns : List Int) : numsL ns = if (!decide (ns = [])) = true then ns.take 60 else [8, 0, 9, 3, 7, 0, 19, 2, 0, 12, 2, 8] := by
  unfold numsL
  by_cases e : ns = []
  · rw [if_pos e, if_neg (by simp [e])]
  · rw [if_neg e, if_pos (by simp [e])]
theorem ev_if3 {prog : Program} {w : World} {A : Around} {O : Type} {C : Cx O} {o : O} {env : Env} {ρ : Loc} {c b e : PySem.Expr} {q : Pos} {t : Bool} {z x y : List Int} (hc : TrOk prog w A C o env ρ c t) (hz : z = if t = true then x else y) (hb : EvOk prog w A C o env ρ b (intsV x)) (he : Hid (EvOk prog w A C o env ρ e (intsV y))) :
    Hid (EvOk prog w A C o env ρ (.IfExp c b e q) (intsV z)) := by
  constructor
  refine ev_if hc ?_
  cases t with
  | true => rw [if_pos rfl] at hz; subst hz; exact hb
  | false => rw [if_neg (by decide)] at hz; subst hz; exact he.get
noncomputable abbrev lwE1 : PySem.Expr := (Expr.IfExp (Expr.Compare (Expr.Name (ofString "script") ⟨792, 29, 792, 35⟩) [CmpOp.NotEq] [Expr.List [] ⟨792, 39, 792, 41⟩] ⟨792, 29, 792, 41⟩) (Expr.Subscript (Expr.Name (ofString "script") ⟨792, 14, 792, 20⟩) (Expr.Slice none (some (Expr.Constant (Const.int 60) 0 ⟨792, 22, 792, 24⟩)) none ⟨792, 21, 792, 24⟩) ⟨792, 14, 792, 25⟩) (Expr.List [Expr.Constant (Const.int 8) 0 ⟨792, 48, 792, 49⟩, Expr.Constant (Const.int 0) 0 ⟨792, 51, 792, 52⟩, Expr.Constant (Const.int 9) 0 ⟨792, 54, 792, 55⟩, Expr.Constant (Const.int 3) 0 ⟨792, 57, 792, 58⟩, Expr.Constant (Const.int 7) 0 ⟨792, 60, 792, 61⟩, Expr.Constant (Const.int 0) 0 ⟨792, 63, 792, 64⟩, Expr.Constant (Const.int 19) 0 ⟨792, 66, 792, 68⟩, Expr.Constant (Const.int 2) 0 ⟨792, 70, 792, 71⟩, Expr.Constant (Const.int 0) 0 ⟨792, 73, 792, 74⟩, Expr.Constant (Const.int 12) 0 ⟨792, 76, 792, 78⟩, Expr.Constant (Const.int 2) 0 ⟨792, 80, 792, 81⟩, Expr.Constant (Const.int 8) 0 ⟨792, 83, 792, 84⟩] ⟨792, 47, 792, 85⟩) ⟨792, 14, 792, 85⟩)
theorem ev_e1 {d : Nat} (R : Rim (K02 P) p loose mean mg mb A₀ base outer A (lwE L fa cd) h₀ L d) (hu : A.units + 64 < cLine) {vs : List Value} {ns : List Int} (hl : h₀.IsList l vs.toArray) (hi : IntsAre vs ns) (hz : ns.length ≤ 1000) {o : LC} {ρ : Loc} :
    Hid (EvOk prog w A (lawCx s₀ h₀ L rest (lwR l)) o (lwE L fa cd) ρ lwE1 (intsV (numsL ns))) := by
  exact ev_if3 (tr_t1 R hu hl hi) (numsL_if ns) (ev_sl1 R hl hi hz) (ev_d1 R)
theorem st_cell1 {o : LC} {ρ : Loc} {e : PySem.Expr} {d : V} {q q' : Pos} (hc : notComp e = true) (he : EvOk prog w A (lawCx s₀ h₀ L rest (lwR l)) o (lwE L fa cd) ρ e d) :
    StOk prog w A (lawCx s₀ h₀ L rest (lwR l)) (lwE L fa cd) X o ρ (.Assign [.Name (ofString "numbers") q] e q') ({ o with numbers := some d }, ρ, .next) := by
  intro fz s Q E h hq
  exact wpAny_Assign_Name (he fz s _ E h fun fz₁ s₁ va s1 h1 x1 => st_numbers h1 x1 fun s₂ h2 => hq fz₁ s₂ s1 h2) (swap_off hc)
theorem st_cell2 {o : LC} {ρ : Loc} {e : PySem.Expr} {d : V} {q q' : Pos} (hc : notComp e = true) (he : EvOk prog w A (lawCx s₀ h₀ L rest (lwR l)) o (lwE L fa cd) ρ e d) :
    StOk prog w A (lawCx s₀ h₀ L rest (lwR l)) (lwE L fa cd) X o ρ (.Assign [.Name (ofString "below") q] e q') ({ o with below := some d }, ρ, .next) := by
  intro fz s Q E h hq
  exact wpAny_Assign_Name (he fz s _ E h fun fz₁ s₁ va s1 h1 x1 => st_below h1 x1 fun s₂ h2 => hq fz₁ s₂ s1 h2) (swap_off hc)
theorem intItems_of {fz : Led} : ∀ {vs : List Value} {ns : List Int}, DatAll fz vs (ns.map .int) → IntsAre vs ns := by
  intro vs ns
  induction ns generalizing vs with
  | nil => intro h; rw [datAll_nil h]; exact .nil
  | cons n ns ih =>
    intro h
    obtain ⟨v, us, rfl, a, b⟩ := datAll_more h
    obtain ⟨t, rfl⟩ := vr_int a
    exact .cons _ _ (ih b)
theorem ev_sum {O : Type} {C : Cx O} {env : Env} {d : Nat} (R : Rim (K02 P) p loose mean mg mb A₀ base outer A env C.h₀ C.L d) (hl : env.kindOf (ofString "sum") = some .globalImplicit) {o : O} {ρ : Loc} {e : PySem.Expr} {ns : List Int} (he : EvOk prog w A C o env ρ e (intsV ns)) (hs : notStar e = true) {q1 q2 : Pos} :
    EvOk prog w A C o env ρ (.Call (.Name (ofString "sum") q1) [e] [] q2) (.int ns.sum) := by
  intro fz s Q E h hq
  refine Call_Name rfl (blt_name R h (v := .builtin "sum") (by kernel_rfl) (by kernel_rfl) (by decide) hl (by decide) ?_)
  refine callWith_builtin1 ((evs_cons hs he evs_nil) q2 fz s _ E h fun fz₁ s₁ vs s1 h1 x1 => ?_) (star_off hs) rfl
  cases x1 with
  | cons v1 r1 =>
    cases r1
    cases v1 with
    | @list a vs n _ hm hv =>
      obtain ⟨h', tk, m, R', rfl, F, N, rp, ap, lc, rf⟩ := id h1
      have hlist : h'.IsList a vs.toArray := ⟨_, (N _ (List.mem_append_right _ (List.mem_append_left _ hm))).1, rfl, n, rfl⟩
      have hi := intItems_of hv
      obtain ⟨xs, hxs⟩ := (hi.allInts).items
      rw [hxs] at hlist
      refine sum_intListG (s := { heap := h', gens := C.s₀.gens, drawn := C.s₀.drawn, toks := tk, os := C.s₀.os }) R.hh hlist fun h₂ tk₂ t' hk => ?_
      have hn : numsOf vs.toArray.toList = ns := hi.numsOf
      have e : preSum (numAt xs) xs.size = ns.sum := by
        rw [preSum_eq, List.take_of_length_le (by simp)]
        rw [← hn, hxs, nums_intItems]
      rw [e]
      exact hq fz₁ _ _ s1 (h1.keep hk tk₂) (.int _ _)
end
noncomputable abbrev lwB : List Stmt := fbody (stAt 25)
noncomputable abbrev lwS2 : Stmt := Stmt.Assign [Expr.Name (ofString "below") ⟨793, 4, 793, 9⟩] (Expr.Subscript cmB1 (Expr.Slice none (some (Expr.Constant (Const.int 5) 0 ⟨793, 64, 793, 65⟩)) none ⟨793, 63, 793, 65⟩) ⟨793, 12, 793, 66⟩) ⟨793, 4, 793, 66⟩
noncomputable abbrev lwS3 : Stmt := Stmt.Assign [Expr.Name (ofString "own") ⟨794, 4, 794, 7⟩] (Expr.Call (Expr.Attribute (Expr.Constant (Const.str (ofString "")) 0 ⟨794, 10, 794, 12⟩) (ofString "join") ⟨794, 10, 794, 17⟩) [cmB2] [] ⟨794, 10, 794, 57⟩) ⟨794, 4, 794, 57⟩
noncomputable abbrev lwS5 : Stmt := Stmt.Assign [Expr.Name (ofString "text") ⟨796, 4, 796, 8⟩] (Expr.Call (Expr.Attribute (Expr.Constant (Const.str (ofString "")) 0 ⟨796, 11, 796, 13⟩) (ofString "join") ⟨796, 11, 796, 18⟩) [cmB3] [] ⟨796, 11, 796, 90⟩) ⟨796, 4, 796, 90⟩
noncomputable abbrev lwP6 : PySem.Expr := (Expr.Compare (Expr.BinOp (Expr.BinOp (Expr.Call (Expr.Name (ofString "sum") ⟨797, 12, 797, 15⟩) [Expr.Name (ofString "numbers") ⟨797, 16, 797, 23⟩] [] ⟨797, 12, 797, 24⟩) Operator.FloorDiv (Expr.Constant (Const.int 32) 0 ⟨797, 28, 797, 30⟩) ⟨797, 12, 797, 30⟩) Operator.Mod (Expr.Constant (Const.int 2) 0 ⟨797, 33, 797, 34⟩) ⟨797, 12, 797, 34⟩) [CmpOp.Eq] [Expr.Constant (Const.int 0) 0 ⟨797, 38, 797, 39⟩] ⟨797, 12, 797, 39⟩)
noncomputable abbrev lwS6 : Stmt := Stmt.Assign [Expr.Name (ofString "posix") ⟨797, 4, 797, 9⟩] lwP6 ⟨797, 4, 797, 39⟩
theorem lw_body : lwB = .Assign [.Name (ofString "numbers") ⟨792, 4, 792, 11⟩] lwE1 ⟨792, 4, 792, 85⟩ :: lwS2 :: lwS3 :: hdS lwB 3 :: lwS5 :: lwS6 :: hdS lwB 6 :: lwB.drop 7 := by kernel_rfl
noncomputable def belL (ns : List Int) : List Nat := (negs ns).take 5
noncomputable def ownL (ns : List Int) : List Nat := ((belL ns).map fun k => signL (ns.getD k 0)).flatten
noncomputable def marksL (ns : List Int) : List Nat := if ownL ns = [] then [39, 40, 45, 92, 97] else ownL ns
noncomputable def textL (ns : List Int) : List Nat := (((List.range ns.length).filter fun k => !decide (k ∈ belL ns)).map fun k => signL (ns.getD k 0)).flatten
noncomputable def posixL (ns : List Int) : Bool := (ns.sum.fdiv 32).fmod 2 == 0
theorem signL_le (x : Int) : (signL x).length ≤ 1 := by
  unfold signL; split
  · simp
  · split <;> simp
theorem lw_s4 (L fa : Addr) (cd : Value) (o : LC) (own : Str) : runS lwI (lwE L fa cd) 40 o [("own", .str own)] (hdS lwB 3) =
  bif !strEq own (ofString "") then some (o, [(ofString "marks", Dat.str own), (ofString "own", Dat.str own)], Fl.next) else some (o, [(ofString "marks", Dat.str (ofString "'(-\\a")), (ofString "own", Dat.str own)], Fl.next) := by kernel_rfl
theorem lw_s7 (L fa : Addr) (cd : Value) (o : LC) (own marks text : V) (posix : Bool) : runS lwI (lwE L fa cd) 40 o [("posix", .bool posix), ("text", text), ("marks", marks), ("own", own)] (hdS lwB 6) =
  bif posix then some (o, [(ofString "end", Dat.none), (ofString "posix", .bool posix), (ofString "text", text), (ofString "marks", marks), (ofString "own", own)], Fl.next) else some (o, [(ofString "end", Dat.str (ofString "")), (ofString "posix", .bool posix), (ofString "text", text), (ofString "marks", marks), (ofString "own", own)], Fl.next) := by kernel_rfl
theorem lit_marks : (ofString "'(-\\a") = S [39, 40, 45, 92, 97] := by decide +kernel
noncomputable abbrev lwRho (ns : List Int) : Loc := [(ofString "end", eofV (posixL ns)), (ofString "posix", .bool (posixL ns)), (ofString "text", .str (S (textL ns))), (ofString "marks", .str (S (marksL ns))), (ofString "own", .str (S (ownL ns)))]
theorem belL_lt {ns : List Int} : ∀ k ∈ belL ns, k < ns.length := fun k hk => by
  have := List.mem_of_mem_take hk
  unfold negs at this
  simpa using (List.mem_filter.mp this).1
section
variable {prog : Program} {w : World} {P : Params} {p : Program} {loose : List Str} {mean : ExcName → Option Value} {mg mb : Str → Option Value} {A₀ : Around} {base : Heap} {outer : List Env} {A : Around} {L fa : Addr} {cd : Value} {s₀ : Shared} {h₀ : Heap} {rest : Led} {l : Addr} {X : Nat → Led → Shared → (Value → Shared → Prop) → Prop}
theorem law_headW {d : Nat} (R : Rim (K02 P) p loose mean mg mb A₀ base outer A (lwE L fa cd) h₀ L (d + 1)) (hu : A.units + 64 < cLine) {vs : List Value} {ns₀ : List Int} (hl : h₀.IsList l vs.toArray) (hi : IntsAre vs ns₀) (hz : ns₀.length ≤ 1000) {fz : Led} {s : Shared} {Q : Flow → Shared → Prop} {E : Value → Shared → Prop} (hAt : At (lawCx s₀ h₀ L rest (lwR l)) ⟨none, none⟩ [] fz s)
    (hrest : ∀ fz s, At (lawCx s₀ h₀ L rest (lwR l)) ⟨some (intsV (numsL ns₀)), some (natsV (belL (numsL ns₀)))⟩ (lwRho (numsL ns₀)) fz s → wpAny (model prog w) A (execs (lwB.drop 7) (lwE L fa cd)) Q E s) :
    wpAny (model prog w) A (execs lwB (lwE L fa cd)) Q E s := by
  have IK := lw_ok (prog := prog) (w := w) (s₀ := s₀) (rest := rest) (l := l) (X := fun _ _ _ _ => False) R
  have hnz : (numsL ns₀).length ≤ 1000 := by
    unfold numsL; split
    · decide
    · rw [List.length_take]; lia
  generalize hns : numsL ns₀ = ns at *
  have hbz : (belL ns).length ≤ 1000 := by unfold belL; rw [List.length_take]; lia
  rw [lw_body]
  refine wpAny_execs_cons ((st_cell1 (X := fun _ _ _ _ => False) (d := intsV ns) (by rfl) (hns ▸ (ev_e1 R hu hl hi hz).get)) _ _ _ _ hAt fun fz s _ hAt => ?_)
  have e2 : natsV (belL ns) = .list ((((negs ns).map fun (k : Nat) => (k : Int)).map Dat.int).take 5) := by
    unfold belL natsV intsV
    rw [List.map_take, List.map_take]
  have h2 : EvOk prog w A (lawCx s₀ h₀ L rest (lwR l)) ⟨some (intsV ns), none⟩ (lwE L fa cd) [] (Expr.Subscript cmB1 (Expr.Slice none (some (Expr.Constant (Const.int 5) 0 ⟨793, 64, 793, 65⟩)) none ⟨793, 63, 793, 65⟩) ⟨793, 12, 793, 66⟩) (natsV (belL ns)) := by
    rw [e2]
    refine ev_lslice (k := 5) (ev_cm1 R (o := ⟨some (intsV ns), none⟩) rfl hnz) ?_
    have : (negs ns).length ≤ ns.length := by unfold negs; exact Nat.le_trans (List.length_filter_le _ _) (by simp)
    simp; lia
  refine wpAny_execs_cons ((st_cell2 (X := fun _ _ _ _ => False) (by rfl) h2) _ _ _ _ hAt fun fz s _ hAt => ?_)
  have e3 : (Dat.list ((belL ns).map fun k => .str (S (signL (ns.getD k 0))))) = .list (((belL ns).map fun k => signL (ns.getD k 0)).map fun l => .str (S l)) := by
    rw [List.map_map]; rfl
  have h3 : EvOk prog w A (lawCx s₀ h₀ L rest (lwR l)) ⟨some (intsV ns), some (natsV (belL ns))⟩ (lwE L fa cd) [] (Expr.Call (Expr.Attribute (Expr.Constant (Const.str (ofString "")) 0 ⟨794, 10, 794, 12⟩) (ofString "join") ⟨794, 10, 794, 17⟩) [cmB2] [] ⟨794, 10, 794, 57⟩) (.str (S (ownL ns))) := by
    refine ev_join (ls := (belL ns).map fun k => signL (ns.getD k 0)) ?_ rfl (by simpa using hbz) (fun l hl => ?_) (by rfl)
    · rw [← e3]
      exact ev_cm2 R (o := ⟨some (intsV ns), some (natsV (belL ns))⟩) rfl rfl hnz hbz belL_lt
    · obtain ⟨k, _, rfl⟩ := List.mem_map.mp hl; exact signL_le _
  refine wpAny_execs_cons ((st_name IK (show lwN.contains (ofString "own") = true by decide +kernel) (by rfl) h3) _ _ _ _ hAt fun fz s _ hAt => ?_)
  have h4 : StOk prog w A (lawCx s₀ h₀ L rest (lwR l)) (lwE L fa cd) (fun _ _ _ _ => False) ⟨some (intsV ns), some (natsV (belL ns))⟩ [(ofString "own", .str (S (ownL ns)))] (hdS lwB 3) (⟨some (intsV ns), some (natsV (belL ns))⟩, [(ofString "marks", .str (S (marksL ns))), (ofString "own", .str (S (ownL ns)))], .next) := by
    have h := lw_s4 L fa cd ⟨some (intsV ns), some (natsV (belL ns))⟩ (S (ownL ns))
    have e0 : (ofString "") = S [] := by decide +kernel
    rw [e0, strEq_S, lit_marks] at h
    unfold marksL
    by_cases q : ownL ns = []
    · rw [if_pos q]
      simp only [q, show (([] : List Nat) == []) = true by rfl, Bool.not_true, cond_false] at h ⊢
      exact runS_ok IK h
    · rw [if_neg q]
      simp only [show (ownL ns == []) = false by simpa using q, Bool.not_false, cond_true] at h
      exact runS_ok IK h
  refine wpAny_execs_cons (h4 _ _ _ _ hAt fun fz s _ hAt => ?_)
  have h5 : EvOk prog w A (lawCx s₀ h₀ L rest (lwR l)) ⟨some (intsV ns), some (natsV (belL ns))⟩ (lwE L fa cd) [(ofString "marks", .str (S (marksL ns))), (ofString "own", .str (S (ownL ns)))] (Expr.Call (Expr.Attribute (Expr.Constant (Const.str (ofString "")) 0 ⟨796, 11, 796, 13⟩) (ofString "join") ⟨796, 11, 796, 18⟩) [cmB3] [] ⟨796, 11, 796, 90⟩) (.str (S (textL ns))) := by
    refine ev_join (ls := ((List.range ns.length).filter fun k => !decide (k ∈ belL ns)).map fun k => signL (ns.getD k 0)) ?_ rfl ?_ (fun l hl => ?_) (by rfl)
    · have := ev_cm3 (prog := prog) (w := w) (s₀ := s₀) (rest := rest) (refs := lwR l) R hu (o := ⟨some (intsV ns), some (natsV (belL ns))⟩) rfl rfl hnz (ρ := [(ofString "marks", .str (S (marksL ns))), (ofString "own", .str (S (ownL ns)))])
      rw [List.map_map]
      exact this
    · rw [List.length_map]
      exact Nat.le_trans (List.length_filter_le _ _) (by simpa using hnz)
    · obtain ⟨k, _, rfl⟩ := List.mem_map.mp hl; exact signL_le _
  refine wpAny_execs_cons ((st_name IK (show lwN.contains (ofString "text") = true by decide +kernel) (by rfl) h5) _ _ _ _ hAt fun fz s _ hAt => ?_)
  have h6 : EvOk prog w A (lawCx s₀ h₀ L rest (lwR l)) ⟨some (intsV ns), some (natsV (belL ns))⟩ (lwE L fa cd) [(ofString "text", .str (S (textL ns))), (ofString "marks", .str (S (marksL ns))), (ofString "own", .str (S (ownL ns)))] lwP6 (.bool (posixL ns)) := by
    refine ev_cmp (ev_bin (ev_bin (ev_sum R (by kernel_rfl) (ev_numbers (o := ⟨some (intsV ns), some (natsV (belL ns))⟩) rfl) rfl) (ev_const rfl) rfl) (ev_const rfl) rfl) (ev_const rfl) rfl rfl
  refine wpAny_execs_cons ((st_name IK (show lwN.contains (ofString "posix") = true by decide +kernel) (by rfl) h6) _ _ _ _ hAt fun fz s _ hAt => ?_)
  have h7 : StOk prog w A (lawCx s₀ h₀ L rest (lwR l)) (lwE L fa cd) (fun _ _ _ _ => False) ⟨some (intsV ns), some (natsV (belL ns))⟩ [(ofString "posix", .bool (posixL ns)), (ofString "text", .str (S (textL ns))), (ofString "marks", .str (S (marksL ns))), (ofString "own", .str (S (ownL ns)))] (hdS lwB 6) (⟨some (intsV ns), some (natsV (belL ns))⟩, lwRho ns, .next) := by
    have h := lw_s7 L fa cd ⟨some (intsV ns), some (natsV (belL ns))⟩ (.str (S (ownL ns))) (.str (S (marksL ns))) (.str (S (textL ns))) (posixL ns)
    cases q : posixL ns with
    | true => rw [q] at h; unfold lwRho; rw [q]; exact runS_ok IK h
    | false => rw [q] at h; unfold lwRho; rw [q]; exact runS_ok IK h
  exact wpAny_execs_cons (h7 _ _ _ _ hAt fun fz s _ hAt => hrest _ _ hAt)
end
noncomputable def KS (P : Params) : Frag := (2, Obj.mk Value.none none (Data.dict #[kE P "\x69mport.loaded._collections" 185 (Value.bool true), kE P "class._frozen_importlib.BuiltinImporter" 187 (Value.ref 15), kE P "watched.\x69mport" 208 (Value.ref 19), kE P "class._frozen_importlib.ModuleSpec" 218 (Value.ref 23), kE P "sys.modules.booked-epoch" 247 (Value.int 3 0), kE P "sys.modules.landed._collections" 248 (Value.bool true), kE P "\x69mport.later-laid._collections" 263 (Value.bool true), kE P "watched.library" 265 (Value.ref 28), kE P "watched.library-objects" 0 (Value.str (ofString "\x0d") 0), kE P "watched.library-deep._collections" 266 (Value.str (ofString "\x04\x00\x00\x0c\x04\x00\x00\x0c\x04\x00\x00\x03\x04\x00\x00\x0c\x08\x04dict\x02") 0), kE P "type.__subclasses__.OSError.0" 322 (Value.int 63 0), kE P "type.__subclasses__.OSError.n" 323 (Value.int 1 0)] 12) #[]) :: (340, Obj.mk (Value.type "type") none (Data.cls (ClassData.mk (ofString "BytesIO") [Value.ref 98] [Value.ref 340, Value.ref 98, Value.ref 83, Value.type "object"] 339 (ofString "BytesIO") true [] [] false none false)) #[some (Value.ref 113), none, some (Value.str (ofString "BytesIO") 394), some (Value.str (ofString "BytesIO") 402), some Value.none, some (Value.bool true)]) :: K02 P
noncomputable def AS : List Addr := 2 :: 340 :: A02
theorem ks_two (P : Params) : (K02 P).lookup 2 = none := by kernel_rfl
theorem ks_340 (P : Params) : (K02 P).lookup 340 = none := by kernel_rfl
theorem ks_in {P : Params} {h : Heap} (X : (KS P).In h) : (K02 P).In h := fun a o e => X a o (by
  unfold KS
  show List.lookup a (_ :: _) = _
  have h2 : (a == 2) = false := by
    rw [beq_eq_false_iff_ne]; rintro rfl
    have := ks_two P
    rw [e] at this; cases this
  have h3 : (a == 340) = false := by
    rw [beq_eq_false_iff_ne]; rintro rfl
    have := ks_340 P
    rw [e] at this; cases this
  rw [List.lookup_cons, h2, List.lookup_cons, h3]; exact e)
theorem Rim.ks {P : Params} {p : Program} {loose : List Str} {mean : ExcName → Option Value} {mg mb : Str → Option Value} {A₀ : Around} {base : Heap} {outer : List Env} {A : Around} {env : Env} {h₀ : Heap} {L : Addr} {d : Nat}
    (R : Rim (KS P) p loose mean mg mb A₀ base outer A env h₀ L d) : Rim (K02 P) p loose mean mg mb A₀ base outer A env h₀ L d :=
  ⟨R.B, ks_in R.X, R.T, R.hA, R.hf, R.hk, R.hl, R.hg, R.hb, R.hh, R.hi, R.room⟩
section
variable {P : Params} (S : Setting)
theorem sio_call : specialIn (KS P) (.ref 587) "__call__" = some (some (.builtin "type.__call__")) := by kernel_rfl
theorem sio_typ : instIn (KS P) (.ref 587) (.type "type") = some true := by kernel_rfl
theorem sio_self : mroIn (KS P) 587 (.ref 587) = some true := by kernel_rfl
theorem sio_made : peek (KS P) S (Bind.madeBy (.ref 587)) = some none := by kernel_rfl
theorem sio_new : findCls (KS P) (.ref 587) (.type "type") "__new__" = some (.get (.builtin "staticmethod.__get__") (.ref 84) .none (.ref 587)) := by kernel_rfl
theorem sio_reads : readsIn (KS P) 587 (.type "type") = true := by kernel_rfl
theorem sio_sm : recIn (KS P) 84 "staticmethod" = some [.ref 80] := by kernel_rfl
theorem sio_init : findIn (KS P) (.ref 587) "__init__" = some (some (.ref 357)) := by kernel_rfl
theorem sio_isType : peek (KS P) S (isType (.ref 587)) = some true := by kernel_rfl
theorem sio_here : peek (KS P) S (Bind.madeHere "object.__new__" (.ref 587)) = some () := by kernel_rfl
theorem sio_mro : peek (KS P) S (mroOf (.ref 587)) = some [.ref 587, .ref 110, .ref 83, .type "object"] := by kernel_rfl
theorem sio_del : peek (KS P) S (classHasDel 587) = some false := by kernel_rfl
theorem sio_abs : peek (KS P) S (classData (587 : Addr) >>= fun c => pure c.abstract) = some false := by kernel_rfl
end
section
set_option tactic.hygienic true
open PySem PySem.Calls PyProof.Rows PySem.W Builtin Builtin.ObjectAttr Builtin.Getset_descriptor
theorem sio_cd (P : Params) : (clsIn (KS P) 587).any (fun cd => !cd.abstract && !cd.hasDel) = true := by kernel_rfl
theorem sio_cls {P : Params} {h : Heap} (X : (KS P).In h) : ∃ oc od cd sl, h.get? 587 = some ⟨oc, od, .cls cd, sl⟩ ∧ cd.abstract = false ∧ cd.hasDel = false := by
  obtain ⟨cd, hc, hb⟩ := any_some (sio_cd P)
  unfold clsIn at hc
  split at hc
  · rename_i oc od cd' sl q
    cases hc
    simp only [Bool.and_eq_true, Bool.not_eq_true'] at hb
    exact ⟨_, _, _, _, X _ _ q, hb.1, hb.2⟩
  · cases hc
section
variable {prog : Program} {w : World} {A : Around} {P : Params} {E : Value → Shared → Prop}
theorem new_sio {R : Result → Shared → Prop} {h : Heap} {g : Array GenState} {d : Drawn} {t : Nat} {os : OsState} (X : (KS P).In h)
    (hq : R (.ok (.ret (.ref (h.objs.size + 1)))) ⟨(h.push emptyDict).push (instObj 587 h.objs.size), g, d, t, os⟩) :
    codeAny (model prog w) A (.call (.builtin "object.__new__") ⟨[.ref 587], []⟩) R ⟨h, g, d, t, os⟩ := by
  have F := PySem.F.objNew
  refine codeAny_call_builtin_code (Code.quiet_builtin _ F.quiet) ?_
  have chk : Looks (model prog w) h (checkBuiltinCall "object.__new__" ⟨[.ref 587], []⟩) () := Looks.of_peek (M := model prog w) X (by kernel_rfl)
  have here : Looks (model prog w) h (Bind.madeHere "object.__new__" (.ref 587)) () := Looks.of_peek (M := model prog w) X (sio_here _)
  have isT : Looks (model prog w) h (isType (.ref 587)) true := Looks.of_peek (M := model prog w) X (sio_isType _)
  obtain ⟨oc, od, cd, sl, hC, e1, e2⟩ := sio_cls X
  refine chk.here ?_
  refine codeAny_builtin F.entry ?_
  unfold Builtin.«object.__new__»
  have fin : ∀ A', wpAny (model prog w) A' (do
      let d ← if typeHasDict (.ref 587) then some <$> alloc { cls := .type "dict", data := .dict #[] } else pure none
      ret (← newObj (.ref 587) .plain d)) (fun fin s' => match fin with | .done f => R (.ok f) s' | .again c' => c'.quiet = true ∧ codeAny (model prog w) A c' R s') (fun e s' => R (.error e) s') ⟨h, g, d, t, os⟩ := by
    intro A'
    show wpAny _ _ ((alloc emptyDict >>= fun x => pure (some x)) >>= _) _ _ _
    refine wpAny_bind (wpAny_bind (wpAny_alloc (wpAny_pure (wpAny_bind ?_))))
    show wpAny _ _ (newObjAsIs _ _ _) _ _ _
    unfold newObjAsIs classHasDel
    refine wpAny_bind (wpAny_alloc (wpAny_bind (wpAny_bind (wpAny_load (Heap.get?_push_of_some _ (Heap.get?_push_of_some _ hC)) (wpAny_pure ?_)))))
    rw [e2]
    refine wpAny_pure (wpAny_pure ?_)
    show R _ _
    rw [Heap.size_push]
    exact hq
  refine wpAny_bind (isT.here ?_)
  simp only [Bool.not_true, Bool.false_eq_true, if_false]
  refine wpAny_bind (here.here ?_)
  simp only [List.isEmpty_nil, Bool.not_true, Bool.or_self, Bool.false_eq_true, if_false]
  repeat (first | simp only [e1, Bool.false_eq_true, if_false] | exact fin _ | lk)
theorem obj_getNew {K : Frag} {h₀ : Heap} {L : Addr} {s : Shared} {m : Str → Option Value} {pl : Sem Bool} {Q : Value × List Value → Shared → Prop} (F : Fr h₀ L s.heap m) (X₀ : K.In h₀)
    (h : Q (.builtin "object.__new__", []) { s with toks := s.toks + 1 }) : wpAny (model prog w) A (getMethod (.type "object") (ofString "__new__") pl) Q E s := by
  have X := X₀.keeps F.keep
  have hstub : opaqueClassAbove (.type "object") = pure none := by unfold opaqueClassAbove; dsimp only; rw [show Manifest.isStub "object" = false by decide +kernel]; rfl
  have ht : typeOf (.type "object") = pure (.type "type") := by first | rfl | kernel_rfl
  have L0 : Looks (model prog w) s.heap (typeOf (.type "object")) (.type "type") := Looks.of_pure ht
  have hg : findIn K (.type "type") "__getattribute__" = some (some (.builtin "type.__getattribute__")) := type_tga
  have e : findCls K (.type "object") (.type "type") (ofString "__new__") = some (.val (.builtin "object.__new__")) := by kernel_rfl
  unfold getMethod specialOf
  refine wpAny_bind (wpAny_bind (L0.here ((looks_findIn X hg).here ?_)))
  dsimp only
  rw [if_pos canon_tga]
  refine wpAny_bind (wpAny_mono (Q := fun v => Q (v, [])) (E := E) ?_ (fun _ _ z => wpAny_pure z) fun _ _ z => z)
  have LO : Looks (model prog w) s.heap (opaqueClassAbove (.type "object")) none := Looks.of_pure hstub
  refine cls_open X LO L0 hg (looks_hook X (r := none) (by rfl)) (by show subIn K _ _ = _; rfl) e ?_
  exact wpAny_pure (by show wpAny _ _ (handedOut _) _ _ _; rw [handedOut_of (by rfl)]; exact wpAny_pure h)
end
end
theorem Apart.symm {R S : Led} (h : Apart R S) : Apart S R := fun p hp q hq e => h q hq p hp e.symm
noncomputable def objCx {O : Type} (C : Cx O) (o₀ : O) (cls x dx : Addr) : Cx (List (Str × FV)) :=
  { s₀ := C.s₀, h₀ := C.h₀, L := C.L, rest := C.rest, refs := C.refs
    Rep := fun fs fz R' => ∃ es n R, R' = (x, instObj cls dx) :: (dx, dictOf es n) :: R ∧ FsOk fz fs es ∧ C.Rep o₀ fz R ∧ x ≠ dx ∧ ∀ q ∈ R, q.1 ≠ x ∧ q.1 ≠ dx
    mono := fun _ _ _ _ hs ⟨es, n, R', e, h1, h2, h3⟩ => ⟨es, n, R', e, h1.mono hs, C.mono _ _ _ _ hs h2, h3⟩ }
noncomputable def plusCx {O : Type} (C : Cx O) (a : Addr) (ob : Obj) : Cx O :=
  { s₀ := C.s₀, h₀ := C.h₀, L := C.L, rest := C.rest, refs := C.refs
    Rep := fun o fz R' => ∃ R, R' = (a, ob) :: R ∧ C.Rep o fz R ∧ ∀ q ∈ R, q.1 ≠ a
    mono := fun _ _ _ _ hs ⟨R', e, h2, h3⟩ => ⟨R', e, C.mono _ _ _ _ hs h2, h3⟩ }
noncomputable def refsCx {O : Type} (C : Cx O) (refs : List (Str × Value)) : Cx O := { C with refs := refs }
section
variable {O : Type} {C : Cx O} {o₀ : O} {cls x dx : Addr}
theorem obj_new {fz : Led} {ρ : Loc} {h : Heap} {tk : Tok} {m : Str → Option Value} {R : Led} {ob1 ob2 : Obj} (e1 : ob1 = emptyDict) (e2 : ob2 = instObj cls h.objs.size) (F : Fr C.h₀ C.L h m) (N : News C.h₀ C.L h (R ++ (fz ++ C.rest))) (rp : C.Rep o₀ fz R) (ap : Apart R (fz ++ C.rest))
    (lc : ∀ x v, ρ.lookup x = some v → ∃ v', m x = some v' ∧ VR fz v v') (rf : ∀ p ∈ C.refs, m p.1 = some p.2) :
    At (objCx C o₀ cls (h.objs.size + 1) h.objs.size) [] ρ fz { C.s₀ with heap := (h.push ob1).push ob2, toks := tk } := by
  subst e1 e2
  have hlt : ∀ p ∈ R ++ (fz ++ C.rest), p.1 < h.objs.size := fun p hp => Heap.lt_size (N p hp).1
  have N' := (N.push F emptyDict).push (F.push _) (instObj cls h.objs.size)
  rw [Heap.size_push] at N'
  refine ⟨_, tk, m, (h.objs.size + 1, instObj cls h.objs.size) :: (h.objs.size, dictOf [] 0) :: R, rfl, (F.push _).push _, N', ⟨[], 0, R, rfl, trivial, rp, Nat.succ_ne_self _, fun q hq => ?_⟩, fun p hp q hq => ?_, lc, rf⟩
  · have := hlt q (List.mem_append_left _ hq)
    exact ⟨Nat.ne_of_lt (Nat.lt_succ_of_lt this), Nat.ne_of_lt this⟩
  · have hq' := hlt q (List.mem_append_right _ hq)
    rcases List.mem_cons.mp hp with rfl | hp
    · exact Nat.ne_of_gt (Nat.lt_succ_of_lt hq')
    · rcases List.mem_cons.mp hp with rfl | hp
      · exact Nat.ne_of_gt hq'
      · exact ap p hp q hq
theorem obj_swap {cls2 x2 dx2 : Addr} {f1 f2 : List (Str × FV)} {ρ : Loc} {fz : Led} {s : Shared} (h : At (objCx (objCx C o₀ cls x dx) f1 cls2 x2 dx2) f2 ρ fz s) :
    At (objCx (objCx C o₀ cls2 x2 dx2) f2 cls x dx) f1 ρ fz s := by
  obtain ⟨hp, tk, m, R', rfl, F, N, ⟨es2, n2, _, rfl, h2, ⟨es, n, R, rfl, h1, rp, d1, a1⟩, d2, a2⟩, ap, lc, rf⟩ := h
  have k1 := a2 _ (.head _)
  have k2 := a2 _ (.tail _ (.head _))
  refine ⟨hp, tk, m, (x, instObj cls dx) :: (dx, dictOf es n) :: (x2, instObj cls2 dx2) :: (dx2, dictOf es2 n2) :: R, rfl, F, fun p hp => N p ?_, ⟨es, n, _, rfl, h1, ⟨es2, n2, R, rfl, h2, rp, d2, fun q hq => a2 q (.tail _ (.tail _ hq))⟩, d1, fun q hq => ?_⟩, fun p hp q hq => ap p ?_ q hq, lc, rf⟩
  · simp only [List.cons_append, List.mem_cons] at hp ⊢
    rcases hp with h | h | h | h | h
    · exact .inr (.inr (.inl h))
    · exact .inr (.inr (.inr (.inl h)))
    · exact .inl h
    · exact .inr (.inl h)
    · exact .inr (.inr (.inr (.inr h)))
  · simp only [List.mem_cons] at hq
    rcases hq with rfl | rfl | hq
    · exact ⟨fun e => k1.1 e.symm, fun e => k2.1 e.symm⟩
    · exact ⟨fun e => k1.2 e.symm, fun e => k2.2 e.symm⟩
    · exact a1 q hq
  · simp only [List.mem_cons] at hp ⊢
    rcases hp with h | h | h | h | h <;> simp [h]
theorem obj_plus {fs : List (Str × FV)} {ρ : Loc} {fz : Led} {s : Shared} {h' : Heap} {ob : Obj} (h : At (objCx C o₀ cls x dx) fs ρ fz s) (he : Heap.ExtBut s.heap.objs.size s.heap h') (ho : h'.get? s.heap.objs.size = some ob) :
    At (objCx (plusCx C s.heap.objs.size ob) o₀ cls x dx) fs ρ fz { s with heap := h' } := by
  obtain ⟨hp, tk, m, R', rfl, F, N, ⟨es, n, R, rfl, h1, rp, d1, a1⟩, ap, lc, rf⟩ := h
  have F' := F.extBut he (Nat.le_refl _)
  have hlt : ∀ p ∈ ((x, instObj cls dx) :: (dx, dictOf es n) :: R) ++ (fz ++ C.rest), p.1 < hp.objs.size := fun p hp => Heap.lt_size (N p hp).1
  have N' : News C.h₀ C.L h' (((x, instObj cls dx) :: (dx, dictOf es n) :: R) ++ (fz ++ C.rest)) := fun p hp => ⟨he p.1 p.2 (Nat.ne_of_lt (Heap.lt_size (N p hp).1)) (N p hp).1, (N p hp).2⟩
  refine ⟨h', tk, m, (x, instObj cls dx) :: (dx, dictOf es n) :: (hp.objs.size, ob) :: R, rfl, F', fun p hm => ?_, ⟨es, n, _, rfl, h1, ⟨R, rfl, rp, fun q hq => ?_⟩, d1, fun q hq => ?_⟩, fun p hp q hq => ?_, lc, rf⟩
  · simp only [List.cons_append, List.mem_cons] at hm
    rcases hm with hm | hm | hm | hm
    · exact N' p (by simp [hm])
    · exact N' p (by simp [hm])
    · subst hm
      obtain ⟨oL, _, _, hL, _⟩ := F.ns
      refine ⟨ho, Nat.ne_of_gt (Heap.lt_size hL), ?_⟩
      cases hq : C.h₀.get? hp.objs.size with
      | none => exact hq
      | some o' => exact absurd (Heap.lt_size (F.keep _ _ hq)) (Nat.lt_irrefl _)
    · exact N' p (.tail _ (.tail _ hm))
  · exact Nat.ne_of_lt (hlt q (.tail _ (.tail _ (List.mem_append_left _ hq))))
  · rcases List.mem_cons.mp hq with rfl | hq
    · exact ⟨Nat.ne_of_gt (hlt _ (.head _)), Nat.ne_of_gt (hlt _ (.tail _ (.head _)))⟩
    · exact a1 q hq
  · have h4 := hlt q (List.mem_append_right _ hq)
    rcases List.mem_cons.mp hp with rfl | hp
    · exact ap _ (.head _) q hq
    · rcases List.mem_cons.mp hp with rfl | hp
      · exact ap _ (.tail _ (.head _)) q hq
      · rcases List.mem_cons.mp hp with rfl | hp
        · exact Nat.ne_of_gt h4
        · exact ap _ (.tail _ (.tail _ hp)) q hq
noncomputable abbrev nwT : Expr := (Expr.BoolOp BoolOp.And [Expr.Compare (Expr.Name (ofString "cls") ⟨24, 11, 24, 14⟩) [CmpOp.IsNot] [Expr.Name (ofString "BytesIO") ⟨24, 22, 24, 29⟩] ⟨24, 11, 24, 29⟩, Expr.Compare (Expr.Name (ofString "cls") ⟨24, 34, 24, 37⟩) [CmpOp.IsNot] [Expr.Name (ofString "StringIO") ⟨24, 45, 24, 53⟩] ⟨24, 34, 24, 53⟩] ⟨24, 11, 24, 53⟩)
noncomputable abbrev nwW : List Stmt := [Stmt.Expr (Expr.Call (Expr.Name (ofString "_wall") ⟨25, 12, 25, 17⟩) [Expr.Constant (Const.int 3) 0 ⟨25, 18, 25, 19⟩] [] ⟨25, 12, 25, 20⟩) ⟨25, 12, 25, 20⟩]
noncomputable abbrev nwC : Expr := (Expr.Call (Expr.Attribute (Expr.Name (ofString "object") ⟨26, 15, 26, 21⟩) (ofString "__new__") ⟨26, 15, 26, 29⟩) [Expr.Name (ofString "cls") ⟨26, 30, 26, 33⟩] [] ⟨26, 15, 26, 34⟩)
theorem nw_body : fbody (meth 6 1) = [Stmt.If nwT nwW [] ⟨24, 8, 25, 20⟩, Stmt.Return (some nwC) ⟨26, 8, 26, 34⟩] := by kernel_rfl
end
def RfOk {O : Type} (prog : Program) (w : World) (A : Around) (C : Cx O) (o : O) (env : Env) (ρ : Loc) (e : Expr) (v : Value) : Prop :=
  ∀ (fz : Led) (s : Shared) (Q : Value → Shared → Prop) (E : Value → Shared → Prop), At C o ρ fz s → (∀ s', At C o ρ fz s' → Q v s') → wpAny (model prog w) A (eval e env) Q E s
theorem isnot_12 (P : Params) (S : Setting) : peek (KS P) S (compareOp .IsNot (.ref 587) (.ref 340)) = some (.bool true) := by kernel_rfl
theorem isnot_11 (P : Params) (S : Setting) : peek (KS P) S (compareOp .IsNot (.ref 587) (.ref 587)) = some (.bool false) := by kernel_rfl
section
variable {prog : Program} {w : World} {K : Frag} {p : Program} {loose : List Str} {mean : ExcName → Option Value} {mg mb : Str → Option Value} {A₀ : Around} {base : Heap} {outer : List Env} {A : Around} {env : Env} {O : Type} {C : Cx O} {d : Nat} {o : O} {ρ : Loc}
theorem rf_ref (R : Rim K p loose mean mg mb A₀ base outer A env C.h₀ C.L d) {x : Str} {v : Value} {pos : Pos} (hr : (x, v) ∈ C.refs) (hk : env.kindOf x = some .local) (hd : (x == ("__debug__" : Str)) = false) : RfOk prog w A C o env ρ (.Name x pos) v := by
  intro fz s Q E h hq
  obtain ⟨h', tk, m, Rl, rfl, F, N, rp, ap, lc, rf⟩ := id h
  exact wpAny_Name (wpAny_loadName_local R.hk hk (by rw [R.hl]; exact F.ns) (rf _ hr) (hq _ h)) hd
theorem rf_glob (R : Rim K p loose mean mg mb A₀ base outer A env C.h₀ C.L d) {x : Str} {v : Value} {pos : Pos} (e : nsIn K mainGlobals x = some (some v)) (hx : env.kindOf x = some .globalImplicit) (hd : (x == ("__debug__" : Str)) = false) : RfOk prog w A C o env ρ (.Name x pos) v :=
  fun _ s _ _ h hq => glob_name R h e hx hd (hq s h)
theorem rf_blt (R : Rim K p loose mean mg mb A₀ base outer A env C.h₀ C.L d) {x : Str} {v : Value} {pos : Pos} (e : nsIn K mainGlobals x = some none) (hv : bootBuiltins x = some v) (hn : x ≠ "__name__") (hx : env.kindOf x = some .globalImplicit) (hd : (x == ("__debug__" : Str)) = false) : RfOk prog w A C o env ρ (.Name x pos) v :=
  fun _ s _ _ h hq => blt_name R h e hv hn hx hd (hq s h)
theorem tr_rfcmp (R : Rim K p loose mean mg mb A₀ base outer A env C.h₀ C.L d) {l r : Expr} {op : CmpOp} {pos : Pos} {a b : Value} {t : Bool} (ha : RfOk prog w A C o env ρ l a) (hb : RfOk prog w A C o env ρ r b) (hm : behindInMarks op r = false) (hc : ∀ S, peek K S (compareOp op a b) = some (.bool t)) :
    TrOk prog w A C o env ρ (.Compare l [op] [r] pos) t := by
  intro fz s Q E h hq
  refine wpAny_isTrue_Compare1 (ha fz s _ E h fun s₁ h1 => hb fz s₁ _ E h1 fun s₂ h2 => ?_) hm
  obtain ⟨m₂, news₂, F₂, N₂⟩ := h2.now'
  refine (Looks.of_peek (M := model prog w) (fun a o q => F₂.keep a o (R.X a o q)) (hc _)).here ?_
  exact truth_sound (fz := fz) (.bool t) rfl fun tk' => hq fz _ (fun _ h => h) (h2.toks tk')
end
section
variable {prog : Program} {w : World} {Pm : Params} {p : Program} {loose : List Str} {mean : ExcName → Option Value} {mg mb : Str → Option Value} {A₀ : Around} {base : Heap} {outer : List Env} {A : Around} {env : Env} {O : Type}
noncomputable abbrev nwP : Arguments := Arguments.mk [Arg.mk (ofString "cls") none ⟨23, 16, 23, 19⟩] [] (some (Arg.mk (ofString "args") none ⟨23, 25, 23, 29⟩)) [] [] (some (Arg.mk (ofString "kwargs") none ⟨23, 33, 23, 39⟩)) []
noncomputable abbrev nwE (L : Addr) : Env := envOf "IOBase.__new__" (fscope (meth 6 1)) L 80 (.ref 79)
theorem new_call {C : Cx O} {d : Nat} (R : Rim (KS Pm) p loose mean mg mb A₀ base outer A env C.h₀ C.L (d + 1)) {o : O} {ρ : Loc} {fz : Led} {s : Shared} (h : At C o ρ fz s) {v : Value} {Re : Result → Shared → Prop}
    (hq : ∀ fz' s' x dx, Sub fz fz' → At (objCx C o 587 x dx) [] ρ fz' s' → Re (.ok (.ret (.ref x))) s') :
    codeAny (model prog w) A (.call (.ref 80) ⟨[.ref 587, v], []⟩) Re s := by
  obtain ⟨hp, tk, m, Rl, rfl, F, N, rp, ap, lc, rf⟩ := id h
  refine kpc_both (K := KS Pm) (name := "__new__") (qual := "IOBase.__new__") (params := nwP) (body := fbody (meth 6 1)) (scope := fscope (meth 6 1)) (cl := []) (dV := .none) (kV := .none) (doc := .none) (pm := .str "io" 286) (cdv := .ref 79) (ct := .none) (oc := .type "function") (an := none) (od := none) (osl := #[]) (f := 80)
    (vs := [v]) (nm := "kwargs") (nr := "args") (ex := []) (front := [("cls", .ref 587)]) (DD := []) R.B F R.X N R.T R.hA R.hf R.hk (by kernel_rfl) (by kernel_rfl) (by have := R.room; lia) rfl rfl rfl rfl rfl .nil (by kernel_rfl) rfl (fun D => rfl) (fun C D => rfl) ?_ ?_ (by kernel_rfl) (by kernel_rfl) (by kernel_rfl) (by decide +kernel)
  · intro C' D' y hy
    simp only [List.cons_append, List.nil_append, List.mem_cons, List.not_mem_nil, or_false] at hy
    rcases hy with rfl | rfl | rfl <;> kernel_rfl
  · intro C' D' ob g L' h₁ tk' l1 l2 l3 hob hfl FG F' N' B' X' T'
    have R' : Rim (KS Pm) p loose mean mg mb A base (env :: outer) (A.deeper (nwE L')) (nwE L') g L' d := by
      refine ⟨B', X', T', ?_, rfl, rfl, rfl, rfl, rfl, R.hh, inter_off rfl, ?_⟩
      · exact Around.frames_deeper R.hA
      · have := R.room
        show A.depth + 1 + d ≤ _
        lia
    have hA' : At (calleeCx C g L' [((ofString "cls"), Value.ref 587)]) o [] ((D', ob) :: (C', ({ cls := .type "tuple", data := .seq [v].toArray } : Obj)) :: fz) { heap := h₁, gens := C.s₀.gens, drawn := C.s₀.drawn, toks := tk', os := C.s₀.os } := by
      refine ⟨h₁, tk', _, Rl, rfl, F', fun p hp => N' p ?_, C.mono _ _ _ _ (fun p hp => .tail _ (.tail _ hp)) rp, fun p hp q hq => ?_, fun x v hx => (by cases hx), fun q hq => ?_⟩
      · simp only [List.mem_append, List.cons_append, List.mem_cons] at hp ⊢
        rcases hp with hp | hp | hp | hp | hp
        · exact .inr (.inr (.inl hp))
        · exact .inl hp
        · exact .inr (.inl hp)
        · exact .inr (.inr (.inr (.inl hp)))
        · exact .inr (.inr (.inr (.inr hp)))
      · have k := l1 p (List.mem_append_left _ hp)
        simp only [List.cons_append, List.mem_cons] at hq
        rcases hq with rfl | rfl | hq
        · exact Nat.ne_of_lt (Nat.lt_trans k l2)
        · exact Nat.ne_of_lt k
        · exact ap p hp q hq
      · cases hq with
        | head => rfl
        | tail _ hq => cases hq
    rw [nw_body]
    have hcls : ∀ {pos}, RfOk prog w (A.deeper (nwE L')) (calleeCx C g L' [((ofString "cls"), Value.ref 587)]) o (nwE L') [] (.Name (ofString "cls") pos) (.ref 587) := fun {pos} => rf_ref (C := calleeCx C g L' _) R' (.head _) (by kernel_rfl) (by decide)
    have hif : StOk prog w (A.deeper (nwE L')) (calleeCx C g L' [((ofString "cls"), Value.ref 587)]) (nwE L') (fun _ _ _ _ => False) o [] (Stmt.If nwT nwW [] ⟨24, 8, 25, 20⟩) (o, [], .next) :=
      st_if (c := false) (tr_and (t := true) (tr_rfcmp (C := calleeCx C g L' _) R' hcls (rf_glob (C := calleeCx C g L' _) R' (by kernel_rfl) (by kernel_rfl) (by decide)) (by rfl) (isnot_12 _)) (by simp only [if_true]; exact tr_one (tr_rfcmp (C := calleeCx C g L' _) R' hcls (rf_glob (C := calleeCx C g L' _) R' (by kernel_rfl) (by kernel_rfl) (by decide)) (by rfl) (isnot_11 _)))) (by simp only [Bool.false_eq_true, if_false]; exact bl_nil)
    refine wpAny_execs_cons (hif _ _ _ _ hA' fun fz₁ s₁ s1 h1 => ?_)
    refine wpAny_execs_cons (wpAny_Return_some (MethodCall_ (pl := _) ?_ (meth_eq (v := .Name (ofString "object") ⟨26, 15, 26, 21⟩) rfl (by rfl) (by simp) (by rfl))))
    refine rf_blt (C := calleeCx C g L' _) R' (v := .type "object") (by kernel_rfl) (by kernel_rfl) (by decide) (by kernel_rfl) (by decide) _ _ _ _ h1 fun s₂ h2 => ?_
    obtain ⟨m₂, news₂, F₂, N₂⟩ := h2.now'
    refine obj_getNew F₂ R'.X ?_
    refine callWith_builtin1 (args_cons ?_ rfl) rfl rfl
    refine hcls _ _ _ _ (h2.toks _) fun s₃ h3 => ?_
    refine args_nil ?_
    refine wpAny_call ?_
    have hlc : ∀ x v, ρ.lookup x = some v → ∃ v', m x = some v' ∧ VR fz₁ v v' := fun x v hx => by
      obtain ⟨v', e1, e2⟩ := lc x v hx
      exact ⟨v', e1, e2.mono fun p hp => s1 p (.tail _ (.tail _ hp))⟩
    obtain ⟨h₄, tk₄, m₄, R₄, rfl, F₄, N₄, rp₄, ap₄, lc₄, rf₄⟩ := h3
    refine new_sio (fun a o q => F₄.keep a o (R'.X a o q)) ?_
    obtain ⟨h₅, tk₅, m₅, R₅, e₅, F₅, N₅, rp₅, ap₅, _, _⟩ := obj_new (C := calleeCx C g L' [((ofString "cls"), Value.ref 587)]) (cls := 587) (o₀ := o) (fz := fz₁) (ρ := []) rfl rfl F₄ N₄ rp₄ ap₄ lc₄ rf₄
    show LeaveK C.h₀ C.L m g Re (.ref (h₄.objs.size + 1)) { C.s₀ with heap := (h₄.push emptyDict).push (instObj 587 h₄.objs.size), toks := tk₄ }
    rw [show ({ C.s₀ with heap := (h₄.push emptyDict).push (instObj 587 h₄.objs.size), toks := tk₄ } : Shared) = _ from e₅]
    exact ⟨L', m₅, _, F₅, N₅, fun F₆ N₆ => hq fz₁ _ _ _ (fun p hp => s1 p (.tail _ (.tail _ hp))) ⟨h₅, tk₅, m, R₅, rfl, F₆, N₆, rp₅, ap₅, hlc, rf⟩⟩
end
section
open PySem PySem.Calls PyProof.Rows PySem.W Builtin Builtin.ObjectAttr Builtin.Getset_descriptor
section
variable {prog : Program} {w : World} {p : Program} {loose : List Str} {mean : ExcName → Option Value} {mg mb : Str → Option Value} {A₀ : Around} {base : Heap} {outer : List Env} {A : Around} {env : Env} {O : Type}
theorem Rim.under {K : Frag} {h₀ : Heap} {L : Addr} {d : Nat} (R : Rim K p loose mean mg mb A₀ base outer A env h₀ L (d + 1)) (a : Addr) (vs : List Value) (kw : List (Str × Value)) :
    Rim K p loose mean mg mb A₀ base outer (A.under (.builtin "type.__call__" ⟨.ref a :: vs, kw⟩)) env h₀ L d :=
  ⟨R.B, R.X, R.T, R.hA, R.hf, R.hk, R.hl, R.hg, R.hb, R.hh, R.hi, by have := R.room; rw [depth_under_kw]; lia⟩
variable {Pm : Params}
theorem sio_make {C : Cx O} {d : Nat} (R : Rim (KS Pm) p loose mean mg mb A₀ base outer A env C.h₀ C.L (d + 2)) {o : O} {ρ : Loc} {fz : Led} {s : Shared} (h : At C o ρ fz s) {v : Value} {Re : Result → Shared → Prop}
    (hq : ∀ fz' s' x dx, Sub fz fz' → At (objCx C o 587 x dx) [] ρ fz' s' → codeAny (model prog w) (A.under (.builtin "type.__call__" ⟨[.ref 587, v], []⟩)) (.call (.ref 357) ⟨[.ref x, v], []⟩) (InitBack x Re) s') :
    codeAny (model prog w) A (.call (.ref 587) ⟨[v], []⟩) Re s := by
  obtain ⟨m, news, F, N⟩ := h.now'
  have X : (KS Pm).In s.heap := R.knows F
  obtain ⟨oc, od, cd, sl, hC, e1, e2⟩ := sio_cls X
  refine codeAny_of_tree ?_
  show wpAny _ _ (callAny (.ref 587) _) _ _ _
  refine nd_load hC ?_
  show wpAny _ _ (callAny.viaDunder (.ref 587) _) _ _ _
  unfold callAny.viaDunder
  refine wpAny_bind ((looks_specialIn X sio_call).at ?_)
  dsimp only
  rw [tc_bind]
  refine wpAny_bind (wpAny_pure (wpAny_bind (wpAny_pure ?_)))
  refine wpAny_pure (a := Fin.again (.call (.builtin "type.__call__") ⟨[.ref 587, v], []⟩)) (And.intro rfl ?_)
  refine codeAny_call_builtin_at (Code.quiet_builtin _ (by decide +kernel)) entry_typeCall (check_slot tc_kind tc_split (looks_instIn X sio_typ) (tc_args _ _ _) ?_)
  unfold Builtin.«type.__call__»
  have hm : Looks (model prog w) s.heap (mroOf (.ref 587)) [.ref 587, .ref 110, .ref 83, .type "object"] := Looks.of_peek (M := model prog w) X (sio_mro _)
  have made : Looks (model prog w) s.heap (Bind.madeBy (.ref 587)) none := Looks.of_peek (M := model prog w) X (sio_made _)
  repeat (first | simp only [List.isEmpty_cons, Bool.false_eq_true, if_false] | with_reducible refine cls_sm F R.X (mc := .type "type") (by kernel_rfl) (by kernel_rfl) sio_new sio_sm (by kernel_rfl) ?_ | with_reducible refine wpAny_call ?_ | lk)
  refine new_call (R.under 587 [v] []) (h.toks _) fun fz' s' x dx sb h' => ?_
  have h'' := h'
  obtain ⟨hp, tk, m', Rl, rfl, F', N', ⟨es, n, R', rfl, hfs, rp, d1, a1⟩, ap, lc, rf⟩ := h'
  have I : InstAt hp x (instObj 587 dx) 587 (some (dictOf es n)) := ⟨(N' _ (.head _)).1, rfl, rfl, (N' _ (.tail _ (.head _))).1⟩
  have X' : (KS Pm).In hp := fun a o q => F'.keep a o (R.X a o q)
  have t1 : Looks (model prog w) hp (typeOf (.ref x)) (.ref 587) := I.type
  have s1 : Looks (model prog w) hp (isSubtype (.ref 587) (.ref 587)) true := looks_mroIn X' sio_self
  have i1 : Looks (model prog w) hp (isInstance (.ref x) (.ref 587)) true := t1.andThen s1
  refine wpAny_bind (Looks.here (s := { C.s₀ with heap := hp, toks := tk }) i1 ?_)
  simp only [Bool.not_true, Bool.false_eq_true, if_false]
  refine wpAny_bind (wpAny_holding (special_fn (s := { C.s₀ with heap := hp, toks := tk }) X' I sio_init (by kernel_rfl) (wpAny_call (codeAny_mono (hq fz' _ x dx sb h'') fun r s' z => ?_))))
  rcases r with e | (v | _ | _ | _) <;> first | exact z | exact z.elim | skip
  obtain ⟨rfl, z⟩ := z
  exact wpAny_pure z
end
end
section
set_option tactic.hygienic true
noncomputable abbrev OF := List (Str × FV)
noncomputable def fldsOk (K : Frag) (cls : Addr) (flds : List Str) : Bool := (hasDictIn K cls && plainOver K cls && (findIn K (.ref cls) "__setattr__" == some (some (.builtin "object.__setattr__")))) && flds.all fun a => plainGet K cls a && (findIn K (.ref cls) a == some none) && (match takerIn K cls a with | some none => true | _ => false)
noncomputable def objI (names flds : List Str) : Ifc OF :=
  { names := names, self := "self", attr := fun o a => bif flds.contains a then (match o.lookup a with | some (.v d) => some d | _ => none) else none,
    setA := fun o a d => bif flds.contains a && Nat.ble o.length 100 then some (putF a (.v d) o) else none,
    callF := fun _ _ _ => none, prim := fun _ _ _ => none }
theorem putF_len (x : Str) (f : FV) : ∀ (l : OF), (putF x f l).length ≤ l.length + 1
  | [] => by simp [putF]
  | y :: r => by
    unfold putF
    split
    · simp
    · have := putF_len x f r
      simp only [List.length_cons]; lia
section
variable {prog : Program} {w : World} {K : Frag} {p : Program} {loose : List Str} {mean : ExcName → Option Value} {mg mb : Str → Option Value} {A₀ : Around} {base : Heap} {outer : List Env} {A : Around} {env : Env} {O : Type}
theorem obj_here {C : Cx O} {o₀ : O} {cls x dx : Addr} {fs : OF} {fz R : Led} (h : (objCx C o₀ cls x dx).Rep fs fz R) : ∃ es n, (x, instObj cls dx) ∈ R ∧ (dx, dictOf es n) ∈ R ∧ FsOk fz fs es := by
  obtain ⟨es, n, R', rfl, h1, _⟩ := h
  exact ⟨es, n, .head _, .tail _ (.head _), h1⟩
theorem obj_turn {C : Cx O} {o₀ : O} {cls x dx : Addr} {fs fs' : OF} {fz R : Led} (h : (objCx C o₀ cls x dx).Rep fs fz R) : ∃ es n pre post, R = pre ++ (dx, dictOf es n) :: post ∧ (x, instObj cls dx) ∈ pre ∧ (∀ q ∈ pre, q.1 ≠ dx) ∧ (∀ q ∈ post, q.1 ≠ dx) ∧ FsOk fz fs es ∧
      ∀ es' n', FsOk fz fs' es' → (objCx C o₀ cls x dx).Rep fs' fz (pre ++ (dx, dictOf es' n') :: post) := by
  obtain ⟨es, n, R', rfl, h1, h2, h3, h4⟩ := h
  refine ⟨es, n, [(x, instObj cls dx)], R', rfl, .head _, fun q hq => ?_, fun q hq => (h4 q hq).2, h1, fun es' n' h => ⟨es', n', R', rfl, h, h2, h3, h4⟩⟩
  simp only [List.mem_singleton] at hq; subst hq; exact h3
theorem fld_of {cls : Addr} {flds : List Str} {a : Str} (hf : fldsOk K cls flds = true) (ha : flds.contains a = true) : plainGet K cls a = true ∧ findIn K (.ref cls) a = some none ∧ takerIn K cls a = some none := by
  simp only [fldsOk, Bool.and_eq_true] at hf
  have := List.all_eq_true.mp hf.2 a (by simpa using ha)
  simp only [Bool.and_eq_true, beq_iff_eq] at this
  refine ⟨this.1.1, this.1.2, ?_⟩
  have := this.2
  split at this
  · assumption
  · cases this
theorem obj_set {C : Cx O} {o₀ : O} {cls x dx : Addr} {d : Nat} (R : Rim K p loose mean mg mb A₀ base outer A env C.h₀ C.L d) {flds : List Str} (hf : fldsOk K cls flds = true) {fs : OF} {ρ : Loc} {fz : Led} {s : Shared} (h : At (objCx C o₀ cls x dx) fs ρ fz s)
    {name : Str} (ha : flds.contains name = true) (hz : fs.length ≤ 100) {f : FV} {v : Value} (hv : FVR fz f v) {Q : Unit → Shared → Prop} {E : Value → Shared → Prop} (hq : ∀ s', At (objCx C o₀ cls x dx) (putF name f fs) ρ fz s' → Q () s') :
    wpAny (model prog w) A (setAttr (.ref x) name v) Q E s := by
  obtain ⟨f1, f2, f3⟩ := fld_of hf ha
  have hf' := hf
  simp only [fldsOk, Bool.and_eq_true, beq_iff_eq] at hf'
  obtain ⟨hp', tk, m, Rl, rfl, F, N, rp, ap, lc, rf⟩ := id h
  obtain ⟨es, n, pre, post, rfl, h1, h2, h3, h4, h5⟩ := obj_turn (fs' := putF name f fs) rp
  have I : InstAt hp' x (instObj cls dx) cls (some (dictOf es n)) := ⟨(N _ (List.mem_append_left _ (List.mem_append_left _ h1))).1, rfl, rfl, (N _ (List.mem_append_left _ (List.mem_append_right _ (.head _)))).1⟩
  have hl : (getL name es).isSome = true := by
    cases q : fs.lookup name with
    | some f => obtain ⟨v', e, _⟩ := fs_get h4 q; rw [e]; rfl
    | none => rw [fs_none h4 q]; rfl
  have hp2 := fs_put (fz := fz) (x := name) (f := f) (v := v) (hs := PyData.keyHash w.params name) (tk := tk + 1) hv h4
  have hrest : ∀ q ∈ fz ++ C.rest, q.1 ≠ dx := fun q hq e => ap (dx, dictOf es n) (List.mem_append_right _ (.head _)) q hq e.symm
  refine set_dict (s := { C.s₀ with heap := hp', toks := tk }) (es' := putL name (PyData.keyHash w.params name) (.str name (tk + 1)) v es) (n' := putN name es n) F R.X N I rfl hf'.1.2 hf'.1.1.2 f3 hf'.1.1.1 hl rfl
    (news' := (pre ++ (dx, dictOf (putL name (PyData.keyHash w.params name) (.str name (tk + 1)) v es) (putN name es n)) :: post) ++ (fz ++ C.rest)) ?_ (by rw [hp2.len]; have := putF_len name f fs; lia) fun h' F' N' => ?_
  · rw [List.append_assoc, List.append_assoc, List.cons_append]
    exact upd_mk (fun q hq => (List.mem_append.mp hq).elim (h3 q) (hrest q)) h2
  · refine hq _ ⟨h', _, m, _, rfl, F', N', h5 _ _ hp2, fun q hq r hr => ?_, lc, rf⟩
    simp only [List.mem_append, List.mem_cons] at hq
    rcases hq with hq | rfl | hq
    · exact ap q (List.mem_append_left _ hq) r hr
    · exact ap (dx, dictOf es n) (List.mem_append_right _ (.head _)) r hr
    · exact ap q (List.mem_append_right _ (.tail _ hq)) r hr
theorem obj_ok {C : Cx O} {o₀ : O} {cls x dx : Addr} {d : Nat} (R : Rim K p loose mean mg mb A₀ base outer A env C.h₀ C.L d) {names flds : List Str} (hf : fldsOk K cls flds = true) (hself : ((ofString "self"), Value.ref x) ∈ C.refs) (hoff : ∀ q ∈ C.refs, names.contains q.1 = false)
    (hn : ∀ x ∈ names, env.kindOf x = some .local) (hk : env.kindOf "self" = some .local) {X : Nat → Led → Shared → (Value → Shared → Prop) → Prop} : IfcOk prog w A (objCx C o₀ cls x dx) env (objI names flds) X x := by
  have hfl : hasDictIn K cls = true := by simp only [fldsOk, Bool.and_eq_true] at hf; exact hf.1.1.1
  have get : ∀ (o : OF) a v, (objI names flds).attr o a = some v → ∀ ρ fz (s : Shared) (Q E : Value → Shared → Prop), At (objCx C o₀ cls x dx) o ρ fz s → (∀ fz' s' v', Sub fz fz' → At (objCx C o₀ cls x dx) o ρ fz' s' → VR fz' v v' → Q v' s') → wpAny (model prog w) A (getAttr (.ref x) a true) Q E s := by
    intro o a v h ρ fz s Q E hA hq
    unfold objI at h
    cases q : flds.contains a with
    | false => simp only [q, cond_false] at h; cases h
    | true =>
      simp only [q, cond_true] at h
      split at h
      case h_2 => cases h
      case h_1 d' hl =>
        cases h
        obtain ⟨f1, f2, f3⟩ := fld_of hf q
        exact get_field (C := objCx C o₀ cls x dx) R hA (fun Rl hr => obj_here hr) hl f1 hfl f2 fun v' s' h' x => hq fz s' v' (fun _ h => h) h' x
  exact {
    orc := fun o => {
      fn := R.hk
      loc := R.hl
      names := hn
      attr := fun a v h ρ p1 p2 fz s Q E hA hq => by
        refine Attribute_name ?_
        obtain ⟨h', tk, m, Rl, rfl, F, N, rp, ap, lc, rf⟩ := id hA
        refine wpAny_Name (wpAny_loadName_local R.hk hk (by rw [R.hl]; exact F.ns) (rf _ hself) ?_) (by decide : ((ofString "self") == ("__debug__" : Str)) = false)
        exact get o a v h ρ fz _ _ _ hA hq
      call := fun f ds d h => by cases h }
    hh := R.hh
    inter := R.hi
    push := fun o x d o' h => by cases h
    give := fun o x o' d h => by cases h
    off := hoff
    self := .inl hself
    selfK := .inl ⟨hk, (by decide : ((ofString "self") == ("__debug__" : Str)) = false)⟩
    get := get
    set := fun o a d o' h ρ fz s v Q E hA hv hq => by
      unfold objI at h
      cases q : flds.contains a && Nat.ble o.length 100 with
      | false => simp only [q, cond_false] at h; cases h
      | true =>
        simp only [q, cond_true] at h
        cases h
        rw [Bool.and_eq_true] at q
        exact obj_set R hf hA q.1 (Nat.le_of_ble_eq_true q.2) (f := .v d) hv hq
    prim := fun o ρ st r h => by cases h }
theorem tr_typestr {C : Cx O} {d : Nat} (R : Rim K p loose mean mg mb A₀ base outer A env C.h₀ C.L d) {o : O} {ρ : Loc} {e : Expr} {p1 p2 p3 p4 : Pos} {x : Str} (he : EvOk prog w A C o env ρ e (.str x)) (hs : notStar e = true)
    (g1 : nsIn K mainGlobals "type" = some none) (g2 : nsIn K mainGlobals "str" = some none) (k1 : env.kindOf "type" = some .globalImplicit) (k2 : env.kindOf "str" = some .globalImplicit) :
    TrOk prog w A C o env ρ (.Compare (.Call (.Name (ofString "type") p1) [e] [] p2) [.IsNot] [.Name (ofString "str") p3] p4) false := by
  intro fz s Q E h hq
  refine wpAny_isTrue_Compare1 (Call_Name rfl ?_) (by rfl)
  refine blt_name R h (x := ofString "type") g1 (v := .type "type") (by kernel_rfl) (by decide) k1 (by decide) ?_
  refine PyProof.Rows.callWith_type1 (args_cons (he fz s _ E h fun fz₁ s₁ v s1 h1 x1 => ?_) (star_off hs)) (star_off hs) rfl
  refine args_nil ?_
  cases x1
  refine call_type_of (typeIs_str _ _ _) (by decide) ?_
  refine blt_name R h1 (x := ofString "str") g2 (v := .type "str") (by kernel_rfl) (by decide) k2 (by decide) ?_
  have : compareOp .IsNot (.type "str") (.type "str") = pure (.bool false) := by kernel_rfl
  rw [this]
  exact wpAny_pure (truth_sound (fz := fz) (.bool false) rfl fun tk' => hq fz₁ _ s1 (h1.toks tk'))
end
end
noncomputable def sioFl : List Str := ["_StringIO__newline", "_StringIO__buf", "_StringIO__pos"]
noncomputable abbrev sioN (i : Nat) : List Str := (locs (fscope (meth 10 i))).filter fun x : Str => !(x == ("self" : Str))
theorem sio_fl (P : Params) : fldsOk (KS P) 587 sioFl = true := by kernel_rfl
noncomputable abbrev ioOF (b : V) : OF := [("_StringIO__newline", .v (.str "\n")), ("_StringIO__buf", .v b), ("_StringIO__pos", .v (.int 0))]
noncomputable abbrev ioOF1 : OF := [("_StringIO__newline", .v (.str "\n"))]
noncomputable abbrev ioOF2 : OF := [("_StringIO__newline", .v (.str "\n")), ("_StringIO__buf", .v (.str ""))]
noncomputable abbrev siE (L : Addr) : Env := envOf "StringIO.__init__" (fscope (meth 10 1)) L 357 (.ref 356)
noncomputable abbrev stE (L : Addr) : Env := envOf "StringIO.__translated" (fscope (meth 10 2)) L 364 (.ref 363)
theorem si_names1 : ∀ L, ∀ x ∈ sioN 1, (siE L).kindOf x = some .local := by
  intro L
  have : ∀ x ∈ sioN 1, (siE 0).kindOf x = some .local := by decide +kernel
  exact this
theorem si_names2 : ∀ L, ∀ x ∈ sioN 2, (stE L).kindOf x = some .local := by
  intro L
  have : ∀ x ∈ sioN 2, (stE 0).kindOf x = some .local := by decide +kernel
  exact this
theorem st_run (L : Addr) (T : Str) : execBK brO (objI (sioN 2) sioFl) (stE L) none 60 (ioOF (.str "")) [("s", .str T)] (fbody (meth 10 2)) (fun o _ fl => some (o, fl)) = some (ioOF (.str ""), .ret (.str T)) := by kernel_rfl
noncomputable abbrev siR (T : Str) : Loc := [("initial_value", .str T), ("newline", .str "\n")]
noncomputable abbrev siC : PySem.Expr := (Expr.Call (Expr.Attribute (Expr.Name (ofString "self") ⟨215, 25, 215, 29⟩) (ofString "_StringIO__translated") ⟨215, 25, 215, 42⟩) [Expr.Name (ofString "initial_value") ⟨215, 43, 215, 56⟩] [] ⟨215, 25, 215, 57⟩)
noncomputable abbrev siT (nm : Str) (p1 p2 p3 p4 p5 p6 p7 p8 : Pos) : PySem.Expr := (Expr.BoolOp BoolOp.And [Expr.Compare (Expr.Name nm p1) [CmpOp.IsNot] [Expr.Constant Const.none 0 p2] p3, Expr.Compare (Expr.Call (Expr.Name (ofString "type") p4) [Expr.Name nm p5] [] p6) [CmpOp.IsNot] [Expr.Name (ofString "str") p7] p8] ⟨0, 0, 0, 0⟩)
noncomputable abbrev siT0 : PySem.Expr := (Expr.BoolOp BoolOp.And [Expr.Compare (Expr.Name (ofString "newline") ⟨205, 11, 205, 18⟩) [CmpOp.IsNot] [Expr.Constant Const.none 0 ⟨205, 26, 205, 30⟩] ⟨205, 11, 205, 30⟩, Expr.Compare (Expr.Call (Expr.Name (ofString "type") ⟨205, 35, 205, 39⟩) [Expr.Name (ofString "newline") ⟨205, 40, 205, 47⟩] [] ⟨205, 35, 205, 48⟩) [CmpOp.IsNot] [Expr.Name (ofString "str") ⟨205, 56, 205, 59⟩] ⟨205, 35, 205, 59⟩] ⟨205, 11, 205, 59⟩)
noncomputable abbrev siB0 : List Stmt := [Stmt.Expr (Expr.Call (Expr.Name (ofString "_wall") ⟨206, 12, 206, 17⟩) [Expr.Constant (Const.int 17) 0 ⟨206, 18, 206, 20⟩] [] ⟨206, 12, 206, 21⟩) ⟨206, 12, 206, 21⟩]
noncomputable abbrev siT2 : PySem.Expr := (Expr.BoolOp BoolOp.And [Expr.Compare (Expr.Name (ofString "initial_value") ⟨209, 11, 209, 24⟩) [CmpOp.IsNot] [Expr.Constant Const.none 0 ⟨209, 32, 209, 36⟩] ⟨209, 11, 209, 36⟩, Expr.Compare (Expr.Call (Expr.Name (ofString "type") ⟨209, 41, 209, 45⟩) [Expr.Name (ofString "initial_value") ⟨209, 46, 209, 59⟩] [] ⟨209, 41, 209, 60⟩) [CmpOp.IsNot] [Expr.Name (ofString "str") ⟨209, 68, 209, 71⟩] ⟨209, 41, 209, 71⟩] ⟨209, 11, 209, 71⟩)
noncomputable abbrev siB2 : List Stmt := [Stmt.Expr (Expr.Call (Expr.Name (ofString "_wall") ⟨210, 12, 210, 17⟩) [Expr.Constant (Const.int 18) 0 ⟨210, 18, 210, 20⟩] [] ⟨210, 12, 210, 21⟩) ⟨210, 12, 210, 21⟩]
noncomputable abbrev siA6 : Stmt := Stmt.Assign [Expr.Attribute (Expr.Name (ofString "self") ⟨215, 12, 215, 16⟩) (ofString "_StringIO__buf") ⟨215, 12, 215, 22⟩] siC ⟨215, 12, 215, 57⟩
theorem si_body : fbody (meth 10 1) = [Stmt.If siT0 siB0 [] ⟨205, 8, 206, 21⟩, hdS (fbody (meth 10 1)) 1, Stmt.If siT2 siB2 [] ⟨209, 8, 210, 21⟩, hdS (fbody (meth 10 1)) 3, hdS (fbody (meth 10 1)) 4, hdS (fbody (meth 10 1)) 5,
  Stmt.If (Expr.Compare (Expr.Name (ofString "initial_value") ⟨214, 11, 214, 24⟩) [CmpOp.IsNot] [Expr.Constant Const.none 0 ⟨214, 32, 214, 36⟩] ⟨214, 11, 214, 36⟩) [siA6] [] ⟨214, 8, 215, 57⟩] := by kernel_rfl
theorem si_1 (L : Addr) (T : Str) (o : OF) : runS (objI (sioN 1) sioFl) (siE L) 60 o (siR T) (hdS (fbody (meth 10 1)) 1) = some (o, siR T, .next) := by kernel_rfl
theorem si_3 (L : Addr) (T : Str) : runS (objI (sioN 1) sioFl) (siE L) 60 [] (siR T) (hdS (fbody (meth 10 1)) 3) = some (ioOF1, siR T, Fl.next) := by kernel_rfl
theorem si_4 (L : Addr) (T : Str) : runS (objI (sioN 1) sioFl) (siE L) 60 ioOF1 (siR T) (hdS (fbody (meth 10 1)) 4) = some (ioOF2, siR T, Fl.next) := by kernel_rfl
theorem si_5 (L : Addr) (T : Str) : runS (objI (sioN 1) sioFl) (siE L) 60 ioOF2 (siR T) (hdS (fbody (meth 10 1)) 5) = some (ioOF (.str ""), siR T, .next) := by kernel_rfl
section
variable {prog : Program} {w : World} {Pm : Params} {p : Program} {loose : List Str} {mean : ExcName → Option Value} {mg mb : Str → Option Value} {A₀ : Around} {base : Heap} {outer : List Env} {A : Around} {env : Env} {O : Type}
theorem trans_call {C : Cx O} {o₀ : O} {x dx : Addr} {d : Nat} (R : Rim (KS Pm) p loose mean mg mb A₀ base outer A env C.h₀ C.L (d + 1)) {ρ : Loc} {fz : Led} {s : Shared} (h : At (objCx C o₀ 587 x dx) (ioOF (.str "")) ρ fz s) {T : Str} {v : Value} (hv : VR fz (.str T) v) {Q E : Value → Shared → Prop}
    (hq : ∀ fz' s' v, Sub fz fz' → At (objCx C o₀ 587 x dx) (ioOF (.str "")) ρ fz' s' → VR fz' (.str T) v → Q v s') : wpAny (model prog w) A (call (.ref 364) [.ref x, v]) Q E s := by
  refine wpAny_call ?_
  refine call_enter (C := objCx C o₀ 587 x dx) (Post := fun o' dd => o' = ioOF (.str "") ∧ dd = .str T) R h (name := "__translated") (qual := "StringIO.__translated") (params := fpar (meth 10 2)) (body := fbody (meth 10 2)) (scope := fscope (meth 10 2)) (dV := .none) (kV := .none) (doc := .none) (pm := .str "io" 286) (cdv := .ref 363) (ct := .none) (oc := .type "function") (an := none) (od := none) (osl := #[]) (f := 364) (binds := [("self", .ref x), ("s", v)])
    (by kernel_rfl) (by kernel_rfl) (BindsTo.of_eq (by kernel_rfl)) (fun y hy => ?_) (by kernel_rfl) (by kernel_rfl) (by kernel_rfl) (by decide +kernel) (ρ' := [("s", .str T)]) (refs' := [("self", .ref x)]) (fun x v hx => ?_) (fun q hq => by simp only [List.mem_singleton] at hq; subst hq; rfl)
    (fun g L' s' R' h' => ?_) fun fz' s' o' dd v e sb hA hv => ?_
  · simp only [List.mem_cons, List.not_mem_nil, or_false] at hy
    rcases hy with rfl | rfl
    · kernel_rfl
    · kernel_rfl
  · rw [List.lookup_cons] at hx
    split at hx
    · rename_i e; cases hx; cases eq_of_beq e; exact ⟨_, rfl, hv⟩
    · cases hx
  · have IK := obj_ok (prog := prog) (w := w) (K := KS Pm) (C := calleeCx C g L' [((ofString "self"), Value.ref x)]) (o₀ := o₀) (cls := 587) (x := x) (dx := dx) (names := sioN 2) (flds := sioFl) (X := fun _ _ _ _ => False) R' (sio_fl Pm) (.head _) (fun q hq => by
      cases hq with
      | head => exact (show (sioN 2).contains (ofString "self") = false by decide +kernel)
      | tail _ h => cases h) (si_names2 _) (by kernel_rfl)
    obtain ⟨⟨o₂, ρ'', fl⟩, hb, e⟩ := (execK_ok IK 60).2 _ _ _ _ (st_run L' T)
    obtain ⟨rfl, rfl⟩ : o₂ = ioOF (.str "") ∧ fl = .ret (.str T) := by simpa using e
    exact hb fz s' _ _ h' fun fz₂ s₂ s2 h2 v hv => ⟨fz₂, _, ρ'', _, s2, h2, hv, rfl, rfl⟩
  · obtain ⟨rfl, rfl⟩ := e
    exact hq fz' s' v sb hA hv
theorem sio_init_call {C : Cx O} {o₀ : O} {x dx : Addr} {d : Nat} (R : Rim (KS Pm) p loose mean mg mb A₀ base outer A env C.h₀ C.L (d + 2)) {ρ : Loc} {fz : Led} {s : Shared} (h : At (objCx C o₀ 587 x dx) [] ρ fz s) {T : Str} {v : Value} (hv : VR fz (.str T) v) {Re : Result → Shared → Prop}
    (hq : ∀ fz' s', Sub fz fz' → At (objCx C o₀ 587 x dx) (ioOF (.str T)) ρ fz' s' → Re (.ok (.ret .none)) s') : codeAny (model prog w) A (.call (.ref 357) ⟨[.ref x, v], []⟩) Re s := by
  obtain ⟨m₀, news₀, F₀, N₀⟩ := h.now'
  refine call_enter (C := objCx C o₀ 587 x dx) (Post := fun o' dd => o' = ioOF (.str T) ∧ dd = .none) R h (name := "__init__") (qual := "StringIO.__init__") (params := fpar (meth 10 1)) (body := fbody (meth 10 1)) (scope := fscope (meth 10 1)) (dV := .ref 350) (kV := .none) (doc := .none) (pm := .str "io" 286) (cdv := .ref 356) (ct := .none) (oc := .type "function") (an := none) (od := none) (osl := #[]) (f := 357) (binds := [("self", .ref x), ("initial_value", v), ("newline", .str "\n" 671)])
    (by kernel_rfl) (by kernel_rfl) (kp_binds (R.knows F₀) (fun S => by kernel_rfl)) (fun y hy => ?_) (by kernel_rfl) (by kernel_rfl) (by kernel_rfl) (by decide +kernel) (ρ' := siR T) (refs' := [("self", .ref x)]) (fun x v hx => ?_) (fun q hq => by simp only [List.mem_singleton] at hq; subst hq; rfl)
    (fun g L' s' R' h' => ?_) fun fz' s' o' dd v e sb hA hv => ?_
  · simp only [List.mem_cons, List.not_mem_nil, or_false] at hy
    rcases hy with rfl | rfl | rfl <;> kernel_rfl
  · rw [List.lookup_cons] at hx
    split at hx
    · rename_i e; cases hx; cases eq_of_beq e; exact ⟨_, rfl, hv⟩
    · rw [List.lookup_cons] at hx
      split at hx
      · rename_i e; cases hx; cases eq_of_beq e; exact ⟨_, rfl, .str _ _⟩
      · cases hx
  · have IK := obj_ok (prog := prog) (w := w) (K := KS Pm) (C := calleeCx C g L' [((ofString "self"), Value.ref x)]) (o₀ := o₀) (cls := 587) (x := x) (dx := dx) (names := sioN 1) (flds := sioFl) (X := fun _ _ _ _ => False) R' (sio_fl Pm) (.head _) (fun q hq => by
      cases hq with
      | head => exact (show (sioN 1).contains (ofString "self") = false by decide +kernel)
      | tail _ h => cases h) (si_names1 _) (by kernel_rfl)
    have hnl : ∀ {o pos}, EvOk prog w (A.deeper (siE L')) (objCx (calleeCx C g L' [((ofString "self"), Value.ref x)]) o₀ 587 x dx) o (siE L') (siR T) (.Name (ofString "newline") pos) (.str "\n") := fun {o pos} => ev_name (IK.orc o) (x := ofString "newline") (show (sioN 1).contains (ofString "newline") = true by decide +kernel) (by decide +kernel) rfl
    have hiv : ∀ {o pos}, EvOk prog w (A.deeper (siE L')) (objCx (calleeCx C g L' [((ofString "self"), Value.ref x)]) o₀ 587 x dx) o (siE L') (siR T) (.Name (ofString "initial_value") pos) (.str T) := fun {o pos} => ev_name (IK.orc o) (x := ofString "initial_value") (show (sioN 1).contains (ofString "initial_value") = true by decide +kernel) (by decide +kernel) rfl
    rw [si_body]
    have s0 : StOk prog w (A.deeper (siE L')) (objCx (calleeCx C g L' [((ofString "self"), Value.ref x)]) o₀ 587 x dx) (siE L') (fun _ _ _ _ => False) [] (siR T) (Stmt.If siT0 siB0 [] ⟨205, 8, 206, 21⟩) ([], siR T, .next) :=
      st_if (c := false) (tr_and (t := true) (tr_cmp hnl (ev_const rfl) rfl rfl rfl) (by simp only [if_true]; exact tr_one (tr_typestr (C := objCx (calleeCx C g L' _) o₀ 587 x dx) R' hnl rfl (by kernel_rfl) (by kernel_rfl) (by kernel_rfl) (by kernel_rfl)))) (by simp only [Bool.false_eq_true, if_false]; exact bl_nil)
    have s2 : StOk prog w (A.deeper (siE L')) (objCx (calleeCx C g L' [((ofString "self"), Value.ref x)]) o₀ 587 x dx) (siE L') (fun _ _ _ _ => False) [] (siR T) (Stmt.If siT2 siB2 [] ⟨209, 8, 210, 21⟩) ([], siR T, .next) :=
      st_if (c := false) (tr_and (t := true) (tr_cmp hiv (ev_const rfl) rfl rfl rfl) (by simp only [if_true]; exact tr_one (tr_typestr (C := objCx (calleeCx C g L' _) o₀ 587 x dx) R' hiv rfl (by kernel_rfl) (by kernel_rfl) (by kernel_rfl) (by kernel_rfl)))) (by simp only [Bool.false_eq_true, if_false]; exact bl_nil)
    have ec : EvOk prog w (A.deeper (siE L')) (objCx (calleeCx C g L' [((ofString "self"), Value.ref x)]) o₀ 587 x dx) (ioOF (.str "")) (siE L') (siR T) siC (.str T) := by
      intro fz s Q E h hq
      refine MethodCall_ (pl := _) ?_ (meth_eq (v := .Name (ofString "self") ⟨215, 25, 215, 29⟩) rfl (by rfl) (by simp) (by rfl))
      refine rf_ref (C := objCx (calleeCx C g L' _) o₀ 587 x dx) R' (.head _) (by kernel_rfl) (by decide) _ _ _ _ h fun s₁ h1 => ?_
      refine meth_on (C := objCx (calleeCx C g L' _) o₀ 587 x dx) (K := KS Pm) R' h1 (fun Rl hr => obj_here hr) (by rfl) (f := 364) (by kernel_rfl) (by kernel_rfl) (by kernel_rfl) (by kernel_rfl) rfl rfl ?_
      refine (evs_cons rfl hiv evs_nil) _ fz _ _ E h1 fun fz₁ s₁ vs s1 h1 x1 => ?_
      cases x1 with
      | cons v1 r1 =>
        cases r1
        exact ⟨⟨_, _, _, h1⟩, trans_call (C := calleeCx C g L' [((ofString "self"), Value.ref x)]) R' h1 v1 fun fz₂ s₂ v s2 h2 x2 => hq fz₂ s₂ v (fun p hp => s2 p (s1 p hp)) h2 x2⟩
    have s6 : StOk prog w (A.deeper (siE L')) (objCx (calleeCx C g L' [((ofString "self"), Value.ref x)]) o₀ 587 x dx) (siE L') (fun _ _ _ _ => False) (ioOF (.str "")) (siR T) (Stmt.If (Expr.Compare (Expr.Name (ofString "initial_value") ⟨214, 11, 214, 24⟩) [CmpOp.IsNot] [Expr.Constant Const.none 0 ⟨214, 32, 214, 36⟩] ⟨214, 11, 214, 36⟩) [siA6] [] ⟨214, 8, 215, 57⟩) (ioOF (.str T), siR T, .next) :=
      st_if (c := true) (tr_cmp hiv (ev_const rfl) rfl rfl rfl) (by simp only [if_true]; exact bl_next (st_attr IK rfl ec (by kernel_rfl)) bl_nil)
    exact bl_next s0 (bl_next (runS_ok IK (si_1 L' T [])) (bl_next s2 (bl_next (runS_ok IK (si_3 L' T)) (bl_next (runS_ok IK (si_4 L' T)) (bl_next (runS_ok IK (si_5 L' T)) (bl_next s6 bl_nil)))))) fz s' _ _ h' fun fz₂ s₂ s2 h2 => ⟨fz₂, _, _, _, s2, h2, .none, rfl, rfl⟩
  · obtain ⟨rfl, rfl⟩ := e
    cases hv
    exact hq fz' s' sb hA
end
section
open PySem PySem.Calls PyProof.Rows PySem.W Builtin Builtin.ObjectAttr Builtin.Getset_descriptor
theorem fk_entry_loop : entryFor table "dict.fromkeys.loop" = some Builtin.«dict.fromkeys.loop» := entryFor_of_tree (by kernel_rfl)
theorem fk_entry : entryFor table "dict.fromkeys" = some Builtin.«dict.fromkeys» := entryFor_of_tree (by kernel_rfl)
theorem fk_quiet_loop {as : Args} : (Code.builtin "dict.fromkeys.loop" as).quiet = true := Code.quiet_builtin _ (by decide +kernel)
theorem fk_quiet {as : Args} : (Code.builtin "dict.fromkeys" as).quiet = true := Code.quiet_builtin _ (by decide +kernel)
theorem dict_typeCall0 : checkTypeCall "dict" ⟨[], []⟩ = pure () := by kernel_rfl
theorem dict_newCall0 : checkBuiltinCall "dict.__new__" ⟨[.type "dict"], []⟩ = pure () := by kernel_rfl
theorem dict_args0 (a : Value) : argsOk "dict.__init__" ⟨[a], []⟩ := by unfold argsOk; kernel_rfl
noncomputable def keysL : List Nat → List (Str × Value) → List (Str × Value)
  | [], kvs => kvs
  | c :: r, kvs => keysL r (stored kvs (S [c]) .none)
section
variable {prog : Program} {w : World} {A : Around} {E : Value → Shared → Prop} {s : Shared}
theorem call_dict0 {Q : Value → Shared → Prop} (h : Q (.ref s.heap.objs.size) { s with heap := s.heap.push { cls := .type "dict", data := .dict #[] } }) : wpAny (model prog w) A (call (.type "dict") []) Q E s := by
  have hn : codeAny (model prog w) A.in1 (.call (.builtin "dict.__new__") ⟨[.type "dict"], []⟩) (wants (fun obj s₁ => obj = .ref s.heap.objs.size ∧ s₁ = { s with heap := s.heap.push { cls := .type "dict", data := .dict #[] } }) E) s := by
    refine codeAny_call_builtin PySem.F.kt_plain_dict_new PySem.F.kt_entry_dict_new (wpAny_of_eq dict_newCall0 ?_)
    have hsub := PySem.F.kt_sub_dict
    have hmro := PySem.F.kt_mro_dict
    obtain ⟨hp, g, d, tk, os⟩ := s
    unfold Builtin.«dict.__new__»
    wp_walk
    exact ⟨rfl, rfl⟩
  refine callType_codes (Q₁ := fun obj s₁ => obj = .ref s.heap.objs.size ∧ s₁ = { s with heap := s.heap.push { cls := .type "dict", data := .dict #[] } }) PySem.F.kt_called_dict dict_typeCall0 PySem.F.entry_dict_init hn ?_
  rintro obj s₁ ⟨rfl, rfl⟩
  have hnew : (s.heap.push { cls := .type "dict", data := .dict #[] }).DictOf (strKind prog w) s.heap.objs.size [] := Heap.DictOf.new s.heap
  refine ⟨hnew.typeIs, dict_args0 _, ?_⟩
  unfold Builtin.«dict.__init__»
  refine wpAny_bind ?_
  unfold Builtin.Dict.selfAndRest
  refine wpAny_bind (wpAny_notOrdered_dict hnew.typeIs ?_)
  show wpAny _ _ (pure (s.heap.objs.size, ([] : List Value))) _ _ _
  refine wpAny_pure ?_
  exact wpAny_bind (wpAny_pure (wpAny_pure ⟨rfl, h⟩))
theorem fk_loop {it d : Addr} {M : List Nat} {St : Nat → Heap → Prop} (W : ∀ A' : Around, A'.handled = none → Walks prog w A' it [it] [it] M.length (SignAt (S M)) St) (hne : it ≠ d) (hh : A.handled = none) {base : Heap} (b1 : base.get? it = none) (b2 : base.get? d = none) (hz : M.length ≤ 100) {R : Result → Shared → Prop} :
    ∀ n i (s : Shared) kvs, n + i = M.length → St i s.heap → s.heap.DictOf (strKind prog w) d kvs → kvs.length ≤ i → (∀ b o, base.get? b = some o → s.heap.get? b = some o) →
    (∀ h' tk, h'.DictOf (strKind prog w) d (keysL (M.drop i) kvs) → (∀ b o, base.get? b = some o → h'.get? b = some o) → R (.ok (.ret (.ref d))) { s with heap := h', toks := tk }) →
    codeAny (model prog w) A (.builtin "dict.fromkeys.loop" ⟨[.ref d, .ref it, .none], []⟩) R s := by
  intro n
  induction n with
  | zero =>
    intro i s kvs hn st hd hk kb hq
    refine codeAny_builtin fk_entry_loop ?_
    unfold Builtin.«dict.fromkeys.loop»
    have hu : (A.under (.builtin "dict.fromkeys.loop" ⟨[.ref d, .ref it, .none], []⟩)).handled = none := hh
    have hi : i = M.length := by lia
    subst hi
    refine wpAny_bind ((W _ hu).done s _ _ st fun h' tk keep => ?_)
    refine wpAny_pure (hq h' tk ?_ fun b o e => keep b o ?_ (kb b o e))
    · have hdr : M.drop M.length = [] := List.drop_length
      rw [hdr]
      obtain ⟨o, es, ep, ho, r⟩ := hd
      exact ⟨o, es, ep, keep d o (by simpa using fun e => hne e.symm) ho, r⟩
    · simp only [List.mem_singleton]
      rintro rfl
      rw [b1] at e; cases e
  | succ n ih =>
    intro i s kvs hn st hd hk kb hq
    refine codeAny_builtin fk_entry_loop ?_
    unfold Builtin.«dict.fromkeys.loop»
    have hu : (A.under (.builtin "dict.fromkeys.loop" ⟨[.ref d, .ref it, .none], []⟩)).handled = none := hh
    have hi : i < M.length := by lia
    refine wpAny_bind ((W _ hu).item i s _ _ hi st fun v h' tk hv st' keep => ?_)
    obtain ⟨c, u, hc, rfl⟩ := hv
    have hd' : h'.DictOf (strKind prog w) d kvs := by
      obtain ⟨o, es, ep, ho, r⟩ := hd
      exact ⟨o, es, ep, keep d o (by simpa using fun e => hne e.symm) ho, r⟩
    have kb' : ∀ b o, base.get? b = some o → h'.get? b = some o := fun b o e => keep b o (by
      simp only [List.mem_singleton]
      rintro rfl
      rw [b1] at e; cases e) (kb b o e)
    refine wpAny_bind (wpAny_typeOf (s := { s with heap := h', toks := tk }) hd'.typeIs ?_)
    refine KFB.if_so (by decide) ?_
    refine wpAny_bind (wpAny_of_eq (a := d) rfl ?_)
    refine wpAny_bind (wpAny_holding (wpAny_dictSet_pairs (s := { s with heap := h', toks := tk }) (strKind_is prog w ⟨#[c]⟩ u) hd' (fun h₂ hd₂ sb => ?_) (by rw [sizeLine_eq]; lia)))
    refine wpAny_pure ⟨fk_quiet_loop, ?_⟩
    have hM : M.drop i = c :: M.drop (i + 1) := by
      rw [List.drop_eq_getElem_cons hi]
      have : M[i]? = some c := by simpa [S] using hc
      rw [List.getElem?_eq_getElem hi] at this
      rw [Option.some.inj this]
    refine ih (i + 1) { s with heap := h₂, toks := tk + 1 } (stored kvs (S [c]) .none) (by lia) ?_ hd₂ ?_ (fun b o e => ?_) fun h₃ tk₃ hd₃ kb₃ => ?_
    · refine (W A hh).frame _ _ _ st' fun b hb o e => ?_
      simp only [List.mem_singleton] at hb
      subst hb
      rw [sb.2 b hne]; exact e
    · have := stored_length_le kvs (S [c]) .none
      lia
    · have hbd : b ≠ d := by rintro rfl; rw [b2] at e; cases e
      rw [sb.2 b hbd]; exact kb' b o e
    · refine hq h₃ tk₃ ?_ kb₃
      rw [hM]; exact hd₃
noncomputable def fkObj : Obj := { cls := .type "builtin_function_or_method", data := .fields #[.builtin "dict.fromkeys", .type "dict"] }
theorem fk_type : typeOf (.builtin "dict.fromkeys") = pure (.type "classmethod_descriptor") := by show builtinType _ = _; rw [builtinType_eq_fast]; kernel_rfl
theorem type_dict : isType (.type "dict") = pure true := by first | rfl | kernel_rfl | (unfold isType; rw [isSubtype_type]; kernel_rfl)
theorem fk_owner : (kfb_private% "ownerAndName") "dict.fromkeys" = ("dict", "fromkeys") := by first | decide +kernel | kernel_rfl
theorem fk_get {M : Model} {P : Fin → Shared → Prop} (h : P (.done (.ret (.ref s.heap.objs.size))) { s with heap := s.heap.push fkObj }) :
    wpAny M A (Builtin.«classmethod_descriptor.__get__» ⟨[.builtin "dict.fromkeys", .none, .type "dict"], []⟩) P E s := by
  unfold Builtin.«classmethod_descriptor.__get__»
  refine wpAny_bind (wpAny_of_eq (a := (.builtin "dict.fromkeys", none, some (.type "dict"))) (by first | rfl | kernel_rfl) ?_)
  simp only [fk_owner]
  refine wpAny_bind (wpAny_of_eq (a := .type "dict") rfl ?_)
  refine wpAny_bind (wpAny_of_eq (a := true) type_dict ?_)
  refine KFB.if_not rfl ?_
  refine wpAny_bind (wpAny_of_eq (a := true) PySem.F.kt_sub_dict ?_)
  refine KFB.if_not rfl ?_
  exact wpAny_bind (wpAny_newObj_type (wpAny_pure h))
theorem fk_getm {K : Frag} {h₀ : Heap} {L : Addr} {m : Str → Option Value} {pl : Sem Bool} {Q : Value × List Value → Shared → Prop} (F : Fr h₀ L s.heap m) (X₀ : K.In h₀)
    (h : Q (.ref s.heap.objs.size, []) { s with heap := s.heap.push fkObj, toks := s.toks + 1 }) :
    wpAny (model prog w) A (getMethod (.type "dict") (ofString "fromkeys") pl) Q E s := by
  have X := X₀.keeps F.keep
  have hstub : opaqueClassAbove (.type "dict") = pure none := by unfold opaqueClassAbove; dsimp only; rw [show Manifest.isStub "dict" = false by decide +kernel]; rfl
  have ht : typeOf (.type "dict") = pure (.type "type") := by first | rfl | kernel_rfl
  have L0 : Looks (model prog w) s.heap (typeOf (.type "dict")) (.type "type") := Looks.of_pure ht
  have hg : findIn K (.type "type") "__getattribute__" = some (some (.builtin "type.__getattribute__")) := type_tga
  have e : findCls K (.type "dict") (.type "type") (ofString "fromkeys") = some (.get (.builtin "classmethod_descriptor.__get__") (.builtin "dict.fromkeys") .none (.type "dict")) := by kernel_rfl
  unfold getMethod specialOf
  refine wpAny_bind (wpAny_bind (L0.here ((looks_findIn X hg).here ?_)))
  dsimp only
  rw [if_pos canon_tga]
  refine wpAny_bind (wpAny_mono (Q := fun v => Q (v, [])) (E := E) ?_ (fun _ _ z => wpAny_pure z) fun _ _ z => z)
  have LO : Looks (model prog w) s.heap (opaqueClassAbove (.type "dict")) none := Looks.of_pure hstub
  refine cls_open X LO L0 hg (looks_hook X (r := none) (by rfl)) (by show subIn K _ _ = _; rfl) e ?_
  show wpAny _ _ (holding [.builtin "dict.fromkeys"] (call (.builtin "classmethod_descriptor.__get__") [.builtin "dict.fromkeys", .none, .type "dict"]) >>= fun v => ret v) _ _ _
  exact wpAny_bind (wpAny_holding (wpAny_call_entry KFB.slot_get fk_type KFB.entry_get (fk_get ⟨_, rfl, wpAny_pure (wpAny_pure h)⟩) (KFB.args_get _ _ _)))
theorem fk_callWith {M : Model} {pos : Pos} {u : Addr} {env : Env} {e : PySem.Expr} {Q : Value → Shared → Prop} (hs : notStar e = true)
    (h : wpAny M A (spliced (backTo pos (starEach [e] env))) (fun vs s₁ => s₁.heap.get? u = some fkObj ∧ wpAny M A (call (.ref u) vs) Q E s₁) E s) :
    wpAny M A (callWith pos (.ref u) [] (backTo pos (starEach [e] env)) []) Q E s := by
  have he : starEach [e] env = (false, eval e env) :: starEach [] env := star_off hs
  rw [he] at h ⊢
  unfold callWith
  have h' : wpAny M A (evalArgs (.ref u) true (backTo pos ((false, eval e env) :: starEach [] env)) []) (fun x s₁ => s₁.heap.get? u = some fkObj ∧ wpAny M A (call (.ref u) ([] ++ x.pos) x.kw) Q E s₁) E s := Calls.evalArgs_plain h
  refine wpAny_bind (wpAny_holding (wpAny_mono h' (fun x s₁ h₁ => wpAny_bind (wpAny_standAt ?_)) fun _ _ x => x))
  obtain ⟨ho, hcall⟩ := h₁
  have hplain : (backTo pos ((false, eval e env) :: starEach [] env)).any (·.1) = false := rfl
  simp only [hplain, List.any_nil, Bool.or_false]
  refine wpAny_bind (m := keeperOf (.ref u)) ?_
  unfold keeperOf
  refine wpAny_bind (wpAny_load ho ?_)
  simp only [fkObj, show (Value.type "builtin_function_or_method" != Value.type "method") = true by decide, show (Value.type "builtin_function_or_method" == Value.type "builtin_function_or_method" || Value.type "builtin_function_or_method" == Value.type "method-wrapper") = true by decide, if_true]
  refine wpAny_pure ?_
  exact wpAny_bind (wpAny_mono hcall (fun r s₂ hr => wpAny_bind (wpAny_holding (wpAny_point (wpAny_pure hr)))) fun _ _ x => x)
theorem fk_check (x : Str) (t : Tok) : checkBoundCall "dict.fromkeys" ⟨[.type "dict", .str x t], []⟩ = pure () := by first | kernel_rfl | rfl
theorem fk_call {u : Addr} {M : List Nat} {t : Tok} {Q : Value → Shared → Prop} (hh : A.handled = none) (hz : M.length ≤ 100) (ho : s.heap.get? u = some fkObj)
    (h : ∀ h' tk, h'.DictOf (strKind prog w) s.heap.objs.size (keysL M []) → (∀ b o, s.heap.get? b = some o → h'.get? b = some o) → Q (.ref s.heap.objs.size) { s with heap := h', toks := tk }) :
    wpAny (model prog w) A (call (.ref u) [.str (S M) t]) Q E s := by
  refine wpAny_call (codeAny_of_tree ?_)
  show wpAny _ A.in1 (callAny (.ref u) ⟨[.str (S M) t], []⟩) _ _ s
  simp only [callAny]
  refine wpAny_bind (wpAny_load ho ?_)
  simp only [fkObj, show (Value.type "builtin_function_or_method" == Value.type "method" || Value.type "builtin_function_or_method" == Value.type "builtin_function_or_method" || Value.type "builtin_function_or_method" == Value.type "method-wrapper") = true by decide, if_true]
  refine KFB.if_so (by decide) ?_
  refine wpAny_bind (wpAny_of_eq (a := ()) (fk_check _ _) ?_)
  refine wpAny_bind (wpAny_pure (wpAny_pure ⟨fk_quiet, codeAny_builtin fk_entry ?_⟩))
  unfold Builtin.«dict.fromkeys»
  refine wpAny_bind (wpAny_of_eq (a := true) type_dict ?_)
  refine KFB.if_not rfl ?_
  refine wpAny_bind (wpAny_of_eq (a := true) PySem.F.kt_sub_dict ?_)
  refine KFB.if_not rfl ?_
  refine KFB.if_not rfl ?_
  refine wpAny_bind (wpAny_rule ?_)
  refine wpAny_bind (wpAny_pure ?_)
  refine wpAny_bind (call_dict0 ?_)
  have hnew : (s.heap.push { cls := .type "dict", data := .dict #[] }).DictOf (strKind prog w) s.heap.objs.size [] := Heap.DictOf.new s.heap
  refine wpAny_holding ?_
  refine wpAny_bind (wpAny_typeOf (typeIs_str _ _ _) ?_)
  refine wpAny_bind (wpAny_typeOf (s := { s with heap := s.heap.push { cls := .type "dict", data := .dict #[] } }) hnew.typeIs ?_)
  refine KFB.if_not (by decide) ?_
  refine wpAny_bind (wpAny_typeOf (s := { s with heap := s.heap.push { cls := .type "dict", data := .dict #[] } }) hnew.typeIs ?_)
  refine KFB.if_not (by decide) ?_
  refine wpAny_bind (wpAny_pyIter_str fun o St W h0 => ?_)
  refine wpAny_pure ⟨fk_quiet_loop, ?_⟩
  have hsz : (s.heap.push { cls := .type "dict", data := .dict #[] }).objs.size = s.heap.objs.size + 1 := Heap.size_push _ _
  refine fk_loop (it := (s.heap.push { cls := .type "dict", data := .dict #[] }).objs.size) (d := s.heap.objs.size) (M := M) (St := St) W (by rw [hsz]; exact Nat.succ_ne_self _) hh (base := s.heap) ?_ ?_ hz M.length 0 _ [] (by lia) h0 (hnew.push o) (Nat.le_refl _) (fun b ob e => ?_) fun h' tk hd kb => ?_
  · cases q : s.heap.get? (s.heap.push { cls := .type "dict", data := .dict #[] }).objs.size with
    | none => rfl
    | some o' => have := Heap.lt_size q; rw [hsz] at this; exact absurd this (Nat.not_lt.mpr (Nat.le_succ _))
  · cases q : s.heap.get? s.heap.objs.size with
    | none => rfl
    | some o' => exact absurd (Heap.lt_size q) (Nat.lt_irrefl _)
  · exact Heap.get?_push_of_some _ (Heap.get?_push_of_some _ e)
  · exact h h' tk hd kb
end
end
section
open PySem PySem.Calls PyProof.Rows PySem.W Builtin Builtin.ObjectAttr Builtin.Getset_descriptor
theorem mt_type : typeOf (.builtin "str.maketrans") = pure (.type "builtin_function_or_method") := by show builtinType _ = _; rw [builtinType_eq_fast]; kernel_rfl
theorem tl_type : typeOf (.builtin "str.translate") = pure (.type "method_descriptor") := by show builtinType _ = _; rw [builtinType_eq_fast]; kernel_rfl
theorem mt_lookup : typeLookup (.type "str") (ofString "maketrans") = pure (some (.builtin "str.maketrans")) := by rw [typeLookup_type, builtinLookup_eq_fast]; kernel_rfl
theorem mt_get : typeLookup (.type "builtin_function_or_method") "__get__" = pure none := by rw [typeLookup_type, builtinLookup_eq_fast]; kernel_rfl
theorem mt_set : typeLookup (.type "builtin_function_or_method") "__set__" = pure none := by rw [typeLookup_type, builtinLookup_eq_fast]; kernel_rfl
theorem mt_del : typeLookup (.type "builtin_function_or_method") "__delete__" = pure none := by rw [typeLookup_type, builtinLookup_eq_fast]; kernel_rfl
theorem mt_entry : entryFor table "str.maketrans" = some Builtin.«str.maketrans» := entryFor_of_tree (by kernel_rfl)
theorem tl_entry : entryFor table "str.translate" = some Builtin.«str.translate» := entryFor_of_tree (by kernel_rfl)
theorem mt_check (a : Addr) : checkBuiltinCall "str.maketrans" ⟨[.ref a], []⟩ = pure () := by kernel_rfl
section
variable {prog : Program} {w : World} {A : Around} {E : Value → Shared → Prop} {h : Heap} {g : Array GenState} {d : Drawn} {t : Nat} {os : OsState} {x : Str} {u : Tok}
theorem mt_body {tk : Tok} {Q : Fin → Shared → Prop} (hq : Q (.done (.ret (.builtin "str.maketrans"))) ⟨h, g, d, t, os⟩) :
    wpAny (model prog w) A (Builtin.«object.__getattribute__» ⟨[.str x u, .str (ofString "maketrans") tk], []⟩) Q E ⟨h, g, d, t, os⟩ := by
  have hT : (⟨h, g, d, t, os⟩ : Shared).TypeIs (.str x u) "str" := rfl
  have f4 := mt_lookup
  have f5 := mt_type
  have f6 := mt_get
  have f7 := mt_set
  have f8 := mt_del
  repeat (any_goals (first | assumption | wp_step))
theorem mt_call {tk : Tok} {R : Result → Shared → Prop} (hq : R (.ok (.ret (.builtin "str.maketrans"))) ⟨h, g, d, t, os⟩) :
    codeAny (model prog w) A (.call (.builtin "object.__getattribute__") ⟨[.str x u, .str (ofString "maketrans") tk], []⟩) R ⟨h, g, d, t, os⟩ :=
  codeAny_call_builtin PySem.F.slot_str_getattribute.plain PySem.F.entry_object_getattribute (PySem.F.slot_str_getattribute.check _ _ _ _ _ _ _ _ (show (⟨h, g, d, t, os⟩ : Shared).TypeIs (.str x u) "str" from rfl) (PySem.F.args_object_getattribute_2 _ _) (mt_body hq))
theorem mt_by {tk : Tok} {Q : Value → Shared → Prop} (hq : Q (.builtin "str.maketrans") ⟨h, g, d, t, os⟩) : wpAny (model prog w) A (getAttrBy (.str x u) (.str (ofString "maketrans") tk) true false) Q E ⟨h, g, d, t, os⟩ := by
  have hT : (⟨h, g, d, t, os⟩ : Shared).TypeIs (.str x u) "str" := rfl
  have f2 := PySem.F.slot_str_getattribute.lookup
  have f3 := PySem.F.slot_str_getattribute.bind (.str x u)
  repeat (any_goals (first | assumption | wp_step))
  refine mt_call ?_
  repeat (any_goals (first | assumption | wp_step))
theorem getMethod_static {M : Model} {s : Shared} {v : Value} {T : String} {name : Str} {id : String} {pl : Sem Bool} {Q : Value × List Value → Shared → Prop} (hT : s.TypeIs v T) (pa : PlainAttrs T)
    (hl : typeLookup (.type T) name = pure (some (.builtin id))) (hty : typeOf (.builtin id) = pure (.type "builtin_function_or_method")) (h : wpAny M A (getAttr v name) (fun r => Q (r, [])) E s) : wpAny M A (getMethod v name pl) Q E s := by
  obtain ⟨g, hg, hcan⟩ := pa.ga
  unfold getMethod
  refine wpAny_bind (wpAny_specialOf hT hg ?_)
  show wpAny M A (if (Manifest.canonical g != "object.__getattribute__") = true then _ else _) Q E s
  rw [hcan, if_neg Bool.false_ne_true]
  refine wpAny_bind (wpAny_specialOf hT pa.noGetattr ?_)
  refine wpAny_bind (wpAny_specialOf hT hl ?_)
  refine wpAny_bind (wpAny_of_eq hty ?_)
  refine KFB.if_so (by decide) ?_
  exact wpAny_bind (wpAny_mono h (fun r s' hr => wpAny_pure hr) fun _ _ e => e)
theorem mt_getm {pl : Sem Bool} {s : Shared} {Q : Value × List Value → Shared → Prop} (hq : Q (.builtin "str.maketrans", []) { s with toks := s.toks + 1 }) : wpAny (model prog w) A (getMethod (.str x u) (ofString "maketrans") pl) Q E s := by
  refine getMethod_static (M := model prog w) (v := .str x u) (T := "str") (name := ofString "maketrans") (id := "str.maketrans") ?h1 ?h2 ?h3 ?h4 ?h5
  case h1 => exact typeIs_str _ _ _
  case h2 => exact PySem.F.plainAttrs_str
  case h3 => exact mt_lookup
  case h4 => exact mt_type
  unfold getAttr
  refine wpAny_bind (wpAny_mkText ?_)
  exact mt_by (h := s.heap) (g := s.gens) (d := s.drawn) (t := s.toks + 1) (os := s.os) hq
end
end
section
open PySem PySem.Calls PyProof.Rows PySem.W Builtin Builtin.ObjectAttr Builtin.Getset_descriptor
noncomputable def onceL : List Nat → List Nat → List Nat
  | [], cs => cs
  | c :: r, cs => onceL r (if c ∈ cs then cs else cs ++ [c])
theorem mem_onceL (x : Nat) : ∀ (M cs : List Nat), x ∈ onceL M cs ↔ x ∈ cs ∨ x ∈ M
  | [], cs => by simp [onceL]
  | c :: r, cs => by
    unfold onceL
    rw [mem_onceL x r]
    by_cases h : c ∈ cs
    · rw [if_pos h, List.mem_cons]
      constructor
      · rintro (h1 | h1)
        · exact .inl h1
        · exact .inr (.inr h1)
      · rintro (h1 | rfl | h1)
        · exact .inl h1
        · exact .inl h
        · exact .inr h1
    · rw [if_neg h, List.mem_append, List.mem_singleton, List.mem_cons, or_assoc]
theorem onceL_len : ∀ (M cs : List Nat), (onceL M cs).length ≤ cs.length + M.length
  | [], cs => by simp [onceL]
  | c :: r, cs => by
    unfold onceL
    have := onceL_len r (if c ∈ cs then cs else cs ++ [c])
    by_cases h : c ∈ cs
    · rw [if_pos h] at *; simp only [List.length_cons]; lia
    · rw [if_neg h] at *; simp only [List.length_cons, List.length_append, List.length_nil] at *; lia
noncomputable abbrev strNones (cs : List Nat) : List (Str × Value) := cs.map fun c => (S [c], Value.none)
noncomputable abbrev intNones (cs : List Nat) : List (Int × Value) := cs.map fun (c : Nat) => ((c : Int), Value.none)
theorem S_inj {a b : Nat} (h : S [a] = S [b]) : a = b := by
  injection h with h; simpa using h
theorem stored_str (cs : List Nat) (c : Nat) : stored (strNones cs) (S [c]) .none = strNones (if c ∈ cs then cs else cs ++ [c]) := by
  unfold stored
  by_cases h : c ∈ cs
  · have : (strNones cs).any (fun kv => decide (kv.1 = S [c])) = true := List.any_eq_true.mpr ⟨(S [c], .none), List.mem_map.mpr ⟨c, h, rfl⟩, by simp⟩
    rw [if_pos this, if_pos h, List.map_map]
    refine List.map_congr_left fun x _ => ?_
    show (if S [x] = S [c] then (S [x], Value.none) else (S [x], Value.none)) = _
    split <;> rfl
  · have : ¬ (strNones cs).any (fun kv => decide (kv.1 = S [c])) = true := fun h2 => by
      obtain ⟨kv, h3, h4⟩ := List.any_eq_true.mp h2
      obtain ⟨x, hx, rfl⟩ := List.mem_map.mp h3
      have := S_inj (of_decide_eq_true h4)
      subst this; exact h hx
    rw [if_neg this, if_neg h]; simp [strNones]
theorem keysL_is : ∀ (M cs : List Nat), keysL M (strNones cs) = strNones (onceL M cs)
  | [], _ => rfl
  | c :: r, cs => by
    unfold keysL onceL
    rw [stored_str, keysL_is r]
theorem stored_int (cs : List Nat) (c : Nat) (h : c ∉ cs) : stored (intNones cs) (c : Int) .none = intNones (cs ++ [c]) := by
  unfold stored
  have : ¬ (intNones cs).any (fun kv => decide (kv.1 = (c : Int))) = true := fun h2 => by
    obtain ⟨kv, h3, h4⟩ := List.any_eq_true.mp h2
    obtain ⟨x, hx, rfl⟩ := List.mem_map.mp h3
    have e : (x : Int) = c := of_decide_eq_true h4
    have : x = c := by lia
    subst this; exact h hx
  rw [if_neg this]; simp [intNones]
theorem onceL_nodup : ∀ (M cs : List Nat), cs.Nodup → (onceL M cs).Nodup
  | [], _, h => h
  | c :: r, cs, h => by
    unfold onceL
    refine onceL_nodup r _ ?_
    split
    · exact h
    · rename_i q
      rw [List.nodup_append]
      refine ⟨h, by simp, fun a ha b hb => ?_⟩
      simp only [List.mem_singleton] at hb; subst hb
      rintro rfl; exact q ha
section
variable {prog : Program} {w : World} {A : Around} {E : Value → Shared → Prop} {s : Shared}
theorem str_key {c : Nat} {v : Value} (h : (PySem.strKind prog w).is (S [c]) v = true) : ∃ t, v = .str (S [c]) t := by
  unfold PySem.strKind at h
  cases v <;> simp [Value.isStrOf] at h
  exact ⟨_, by rw [h]⟩
theorem mt_loop {tb : Addr} {base : Heap} (hb : base.get? tb = none) {f : DictEntry → PUnit → Sem (ForInStep PUnit)} (hf : ∀ (e : DictEntry) (c : Nat) (t : Tok), e.key = .str (S [c]) t → f e ⟨⟩ = (do let v ← mkInt (c : Int); dictSet tb v e.val; pure (ForInStep.yield ⟨⟩))) :
    ∀ (es : List DictEntry) (cs ds : List Nat) (s : Shared) {Q : PUnit → Shared → Prop}, PySem.Pairs (PySem.strKind prog w) es (strNones cs) → s.heap.DictOf (PySem.intKind prog w) tb (intNones ds) → (ds ++ cs).Nodup → ds.length + cs.length ≤ 1000 → (∀ b o, base.get? b = some o → s.heap.get? b = some o) →
    (∀ h' tk, h'.DictOf (PySem.intKind prog w) tb (intNones (ds ++ cs)) → (∀ b o, base.get? b = some o → h'.get? b = some o) → Q ⟨⟩ { s with heap := h', toks := tk }) →
    wpAny (model prog w) A (forIn es PUnit.unit f) Q E s
  | [], [], ds, s, Q, _, hd, _, _, kb, hq => by
    have := hq s.heap s.toks (by simpa using hd) kb
    exact wpAny_pure this
  | e :: es, c :: cs, ds, s, Q, hp, hd, hn, hz, kb, hq => by
    cases hp with
    | cons h1 h2 h3 =>
      obtain ⟨t, ht⟩ := str_key h1
      rw [List.forIn_cons, hf e c t ht]
      have hv : e.val = .none := h2
      rw [hv]
      refine wpAny_bind (wpAny_bind (wpAny_mkInt (wpAny_bind ?_)))
      refine wpAny_dictSet_pairs (s := { s with toks := s.toks + 1 }) (intKind_is prog w (c : Int) _) hd (fun h₂ hd₂ sb => ?_) (by rw [List.length_map, sizeLine_eq]; lia)
      refine wpAny_pure ?_
      have hc : c ∉ ds := fun h => by
        rw [List.nodup_append] at hn
        exact hn.2.2 c h c (.head _) rfl
      rw [stored_int ds c hc] at hd₂
      refine mt_loop hb hf es cs (ds ++ [c]) _ h3 hd₂ (by rw [List.append_assoc]; exact hn) (by simp only [List.length_append, List.length_cons, List.length_nil] at *; lia) (fun b o q => ?_) fun h' tk hd' kb' => ?_
      · have : b ≠ tb := by rintro rfl; rw [hb] at q; cases q
        rw [sb.2 b this]; exact kb b o q
      · refine hq h' tk ?_ kb'
        rw [List.append_assoc] at hd'; exact hd'
  | [], _ :: _, _, _, _, hp, _, _, _, _, _ => by cases hp
  | _ :: _, [], _, _, _, hp, _, _, _, _, _ => by cases hp
theorem mt_run {d : Addr} {M : List Nat} {P : Fin → Shared → Prop} (hd : s.heap.DictOf (strKind prog w) d (keysL M [])) (hm : (d == sysModules) = false) (hz : M.length ≤ 100)
    (h : ∀ h' tk, h'.DictOf (PySem.intKind prog w) s.heap.objs.size (intNones (onceL M [])) → (∀ b o, s.heap.get? b = some o → h'.get? b = some o) → P (.done (.ret (.ref s.heap.objs.size))) { s with heap := h', toks := tk }) :
    wpAny (model prog w) A (Builtin.«str.maketrans» ⟨[.ref d], []⟩) P E s := by
  unfold Builtin.«str.maketrans»
  refine wpAny_bind (wpAny_of_eq (a := ()) rfl ?_)
  refine wpAny_bind (wpAny_of_eq (a := ()) rfl ?_)
  dsimp only [List.headD, List.getElem?_cons_succ, List.getElem?_nil, Option.mapM]
  refine wpAny_bind (wpAny_pure (wpAny_bind (wpAny_pure (wpAny_bind ?_))))
  refine wpAny_newObj_type ?_
  have hT : Shared.TypeIs { s with heap := s.heap.push { cls := .type "dict", data := .dict #[] } } (.ref d) "dict" := (hd.push { cls := .type "dict", data := .dict #[] }).typeIs
  dsimp only
  refine wpAny_bind (wpAny_holding ?_)
  refine wpAny_bind (wpAny_typeOf hT ?_)
  refine wpAny_bind (wpAny_of_eq (a := ()) rfl ?_)
  refine wpAny_bind (wpAny_typeOf hT ?_)
  refine KFB.if_not (by decide) ?_
  refine wpAny_bind (wpAny_of_eq (a := ()) (by unfold notTheModulesDict; rw [hm]; rfl) ?_)
  have hk : keysL M [] = strNones (onceL M []) := keysL_is M []
  rw [hk] at hd
  obtain ⟨o, es, ep, ho, hc, hdat, hks, hp, hn⟩ := hd
  have hb : s.heap.get? s.heap.objs.size = none := by
    cases q : s.heap.get? s.heap.objs.size with
    | none => rfl
    | some o' => exact absurd (Heap.lt_size q) (Nat.lt_irrefl _)
  refine wpAny_bind (wpAny_dictEntries (s := { s with heap := s.heap.push { cls := .type "dict", data := .dict #[] } }) (Heap.get?_push_of_some _ ho) hdat ?_)
  refine wpAny_bind ?_
  rw [← Array.forIn_toList]
  refine mt_loop (tb := s.heap.objs.size) (base := s.heap) hb (fun e c t he => by obtain ⟨hs, key, val⟩ := e; cases he; rfl) es.toList (onceL M []) [] _ hp (Heap.DictOf.new s.heap) (onceL_nodup M [] List.nodup_nil) (by have := onceL_len M []; simp only [List.length_nil] at *; lia) (fun b o q => Heap.get?_push_of_some _ q) fun h' tk hd' kb' => ?_
  exact wpAny_pure (wpAny_pure (h h' tk (by simpa using hd') kb'))
end
end
section
open PySem PySem.Calls PyProof.Rows PySem.W Builtin Builtin.ObjectAttr Builtin.Getset_descriptor
theorem key_lookup : isSubtype (.type "KeyError") (.type "LookupError") = pure true := by rw [isSubtype_type]; kernel_rfl
theorem valueAt_nones (cs : List Nat) (c : Nat) : valueAt (intNones cs) (c : Int) = if c ∈ cs then some .none else none := by
  unfold valueAt
  by_cases h : c ∈ cs
  · rw [if_pos h]
    cases q : (intNones cs).find? fun kv => decide (kv.1 = (c : Int)) with
    | none =>
      have := List.find?_eq_none.mp q ((c : Int), .none) (List.mem_map.mpr ⟨c, h, rfl⟩)
      simp at this
    | some kv =>
      obtain ⟨x, _, rfl⟩ := List.mem_map.mp (List.mem_of_find?_eq_some q)
      rfl
  · rw [if_neg h]
    cases q : (intNones cs).find? fun kv => decide (kv.1 = (c : Int)) with
    | none => rfl
    | some kv =>
      obtain ⟨x, hx, rfl⟩ := List.mem_map.mp (List.mem_of_find?_eq_some q)
      have h2 := List.find?_some q
      have : x = c := by
        have h3 : ((x : Nat) : Int) = (c : Int) := of_decide_eq_true h2
        lia
      subst this; exact absurd hx h
section
variable {prog : Program} {w : World} {A : Around} {E : Value → Shared → Prop} {s : Shared}
theorem tl_lookup {tb : Addr} {cs : List Nat} {c : Nat} {Q : Str.Mapped → Shared → Prop} (hh : A.handled = none) (hd : s.heap.DictOf (PySem.intKind prog w) tb (intNones cs)) (hm : (tb == sysModules) = false)
    (hq : ∀ h' tk, (∀ b o, s.heap.get? b = some o → h'.get? b = some o) → Q (if c ∈ cs then .drop else .keep) { s with heap := h', toks := tk }) :
    wpAny (model prog w) A (Str.tableLookup (.ref tb) c) Q E s := by
  unfold Str.tableLookup
  refine wpAny_bind (wpAny_attempt (wpAny_bind (wpAny_mkInt ?_)))
  have hv := valueAt_nones cs c
  by_cases h : c ∈ cs
  · rw [if_pos h] at hv hq
    refine wpAny_getItem_of (s := { s with toks := s.toks + 1 }) (intKind_is prog w (c : Int) _) hd.mapOf hv ?_
    exact wpAny_pure (hq s.heap _ fun _ _ e => e)
  · rw [if_neg h] at hv hq
    refine wpAny_getItem_missing_of (s := { s with toks := s.toks + 1 }) (intKind_is prog w (c : Int) _) hm hh hd.mapOf hv fun h' e hx => ?_
    obtain ⟨ob, t, ho, hc, _⟩ := hx.there
    refine wpAny_bind (wpAny_isInstance (T := "KeyError") ⟨ob, ho, hc⟩ key_lookup ?_)
    refine KFB.if_so rfl ?_
    refine wpAny_bind (wpAny_rule ?_)
    exact wpAny_pure (hq h' _ hx.keeps)
theorem fold_single : ∀ (l : List Nat) (acc : Array Nat), (l.map fun c => (⟨#[c]⟩ : PySem.Str)).foldl (fun acc p => acc ++ p.cps) acc = acc ++ l.toArray
  | [], acc => by simp
  | c :: r, acc => by
    rw [List.map_cons, List.foldl_cons, fold_single r]
    apply Array.ext'; simp
theorem forIn_inv {M : Model} {σ : Type} {f : Nat → σ → Sem (ForInStep σ)} {W : List Nat} (Inv : List Nat → σ → Heap → Prop)
    (hstep : ∀ (pre : List Nat) (c : Nat) (rest : List Nat) (st : σ) (h : Heap) (tk : Nat) (Q : ForInStep σ → Shared → Prop), W = pre ++ c :: rest → Inv pre st h → (∀ st' h' tk', Inv (pre ++ [c]) st' h' → Q (.yield st') { s with heap := h', toks := tk' }) → wpAny M A (f c st) Q E { s with heap := h, toks := tk }) :
    ∀ (l pre : List Nat) (st : σ) (h : Heap) (tk : Nat) (Q : σ → Shared → Prop), W = pre ++ l → Inv pre st h → (∀ st' h' tk', Inv W st' h' → Q st' { s with heap := h', toks := tk' }) → wpAny M A (forIn l st f) Q E { s with heap := h, toks := tk }
  | [], pre, st, h, tk, Q, hW, hi, hq => by
    rw [List.append_nil] at hW; subst hW
    exact wpAny_pure (hq st h tk hi)
  | c :: r, pre, st, h, tk, Q, hW, hi, hq => by
    rw [List.forIn_cons]
    refine wpAny_bind (hstep pre c r st h tk _ hW hi fun st' h' tk' hi' => ?_)
    exact forIn_inv Inv hstep r (pre ++ [c]) st' h' tk' Q (by rw [List.append_assoc]; exact hW) hi' hq
def TlInv (cs : List Nat) (s : Shared) (pre : List Nat) (pieces : List PySem.Str) (total : Nat) (known : List (Nat × Option Nat)) (h' : Heap) : Prop :=
  pieces = ((pre.filter fun c => decide (c ∉ cs)).map fun c => (⟨#[c]⟩ : PySem.Str)).reverse ∧ total = (pre.filter fun c => decide (c ∉ cs)).length ∧ (∀ c a, known.lookup c = some a → a = if c ∈ cs then none else some c) ∧ ∀ b o, s.heap.get? b = some o → h'.get? b = some o
theorem TlInv.drop {cs pre : List Nat} {c : Nat} {pieces : List PySem.Str} {total : Nat} {known known' : List (Nat × Option Nat)} {h₁ h' : Heap} (I : TlInv cs s pre pieces total known h₁) (hc : c ∈ cs) (hk : known' = known ∨ known' = (c, none) :: known) (k : ∀ b o, s.heap.get? b = some o → h'.get? b = some o) :
    TlInv cs s (pre ++ [c]) pieces total known' h' := by
  obtain ⟨h1, h2, h3, _⟩ := I
  have e : ((pre ++ [c]).filter fun c => decide (c ∉ cs)) = (pre.filter fun c => decide (c ∉ cs)) := by rw [List.filter_append]; simp [hc]
  refine ⟨by rw [e]; exact h1, by rw [e]; exact h2, fun c' a' hl => ?_, k⟩
  rcases hk with rfl | rfl
  · exact h3 c' a' hl
  · rw [List.lookup_cons] at hl
    split at hl
    · rename_i q
      rw [← sj hl, eq_of_beq q, if_pos hc]
    · exact h3 c' a' hl
theorem TlInv.keep {cs pre : List Nat} {c : Nat} {pieces : List PySem.Str} {total : Nat} {known known' : List (Nat × Option Nat)} {h₁ h' : Heap} (I : TlInv cs s pre pieces total known h₁) (hc : c ∉ cs) (hk : known' = known ∨ known' = (c, some c) :: known) (k : ∀ b o, s.heap.get? b = some o → h'.get? b = some o) :
    TlInv cs s (pre ++ [c]) (⟨#[c]⟩ :: pieces) (total + 1) known' h' := by
  obtain ⟨h1, h2, h3, _⟩ := I
  have e : ((pre ++ [c]).filter fun c => decide (c ∉ cs)) = (pre.filter fun c => decide (c ∉ cs)) ++ [c] := by rw [List.filter_append]; simp [hc]
  refine ⟨by rw [e, h1]; simp, by rw [e, h2]; simp, fun c' a' hl => ?_, k⟩
  rcases hk with rfl | rfl
  · exact h3 c' a' hl
  · rw [List.lookup_cons] at hl
    split at hl
    · rename_i q
      rw [← sj hl, eq_of_beq q, if_neg hc]
    · exact h3 c' a' hl
theorem tl_run {tb : Addr} {cs : List Nat} {W : List Nat} {t : Tok} {P : Fin → Shared → Prop} (hh : A.handled = none) (hd : s.heap.DictOf (PySem.intKind prog w) tb (intNones cs)) (hm : (tb == sysModules) = false) (hz : W.length ≤ 1000) (hne : W ≠ [])
    (h : ∀ h' tk u, (∀ b o, s.heap.get? b = some o → h'.get? b = some o) → P (.done (.ret (.str (S (W.filter fun c => decide (c ∉ cs))) u))) { s with heap := h', toks := tk }) :
    wpAny (model prog w) A (Builtin.«str.translate» ⟨[.str (S W) t, .ref tb], []⟩) P E s := by
  unfold Builtin.«str.translate»
  refine wpAny_bind (wpAny_of_eq (a := (Value.str (S W) t, S W, Value.ref tb)) (by rfl) ?_)
  dsimp only
  refine KFB.if_not (by cases W with | nil => exact absurd rfl hne | cons _ _ => rfl) ?_
  rw [← Array.forIn_toList]
  refine wpAny_bind (forIn_inv (s := s) (W := W) (fun pre st h' => TlInv cs s pre st.1 st.2.1 st.2.2.2.1 h') ?step W [] _ s.heap s.toks _ rfl ⟨rfl, rfl, fun c a e => (by cases e), fun _ _ e => e⟩ ?fin)
  case fin =>
    rintro ⟨pieces, total, fast, known, ad⟩ h' tk ⟨h1, h2, -, hk⟩
    dsimp only at h1 h2 ⊢
    have hlen : (W.filter fun c => decide (c ∉ cs)).length ≤ 1000 := Nat.le_trans (List.length_filter_le _ _) hz
    refine KFB.if_not (by unfold Str.tooLong; rw [decide_eq_false_iff_not, h2, sizeLine_eq]; lia) ?_
    rw [h1, List.reverse_reverse, fold_single]
    have e : (#[] : Array Nat) ++ (W.filter fun c => decide (c ∉ cs)).toArray = (W.filter fun c => decide (c ∉ cs)).toArray := by simp
    rw [e]
    refine wpAny_bind (wpAny_mkStr (wpAny_pure (h h' _ _ hk)) ?_)
    show (W.filter fun c => decide (c ∉ cs)).toArray.size ≤ sizeLine
    rw [List.size_toArray, sizeLine_eq]; lia
  case step =>
    intro pre c rest st h' tk Q hW I hq
    have h2 := I.2.1
    have h3 := I.2.2.1
    have hk := I.2.2.2
    have hlen : st.2.1 ≤ 1000 := by
      rw [h2]
      refine Nat.le_trans (List.length_filter_le _ _) (Nat.le_trans ?_ hz)
      rw [hW, List.length_append]
      exact Nat.le_add_right _ _
    have look : ∀ {h₀ : Heap} {tk₀ : Nat} {Q' : Str.Mapped → Shared → Prop}, (∀ b o, s.heap.get? b = some o → h₀.get? b = some o) → (∀ h₂ tk₂, (∀ b o, s.heap.get? b = some o → h₂.get? b = some o) → (c ∈ cs → Q' .drop { s with heap := h₂, toks := tk₂ }) ∧ (c ∉ cs → Q' .keep { s with heap := h₂, toks := tk₂ })) →
        wpAny (model prog w) A (Str.tableLookup (.ref tb) c) Q' E { s with heap := h₀, toks := tk₀ } := fun {h₀ tk₀ Q'} k0 hq' =>
      tl_lookup (s := { s with heap := h₀, toks := tk₀ }) hh (hd.keep k0) hm fun h₂ tk₂ hk₂ => by
        have hq2 := hq' h₂ tk₂ fun b o e => hk₂ b o (k0 b o e)
        by_cases hc : c ∈ cs
        · rw [if_pos hc]; exact hq2.1 hc
        · rw [if_neg hc]; exact hq2.2 hc
    refine KFB.if_not (by unfold Str.tooLong; rw [decide_eq_false_iff_not, sizeLine_eq]; lia) ?_
    cases hf : st.2.2.1 with
    | true =>
      refine KFB.if_so rfl ?_
      cases hl : List.lookup c st.2.2.2.1 with
      | some a =>
        have ha := h3 c a hl
        by_cases hc : c ∈ cs
        · obtain rfl : a = none := ha.trans (if_pos hc)
          exact wpAny_bind (wpAny_pure (wpAny_pure (hq _ _ _ (I.drop hc (.inl rfl) hk))))
        · obtain rfl : a = some c := ha.trans (if_neg hc)
          exact wpAny_bind (wpAny_pure (wpAny_pure (hq _ _ _ (I.keep hc (.inl rfl) hk))))
      | none => exact wpAny_bind (look hk fun h₂ tk₂ hk₂ => ⟨fun hc => wpAny_bind (wpAny_pure (wpAny_pure (hq _ _ _ (I.drop hc (.inr rfl) hk₂)))), fun hc => wpAny_bind (wpAny_pure (wpAny_pure (hq _ _ _ (I.keep hc (.inr rfl) hk₂))))⟩)
    | false =>
      refine KFB.if_not rfl ?_
      cases ha : st.2.2.2.2 with
      | true =>
        refine KFB.if_so rfl ?_
        exact wpAny_bind (look hk fun h₂ tk₂ hk₂ => ⟨fun hc => wpAny_pure (hq _ _ _ (I.drop hc (.inl rfl) hk₂)), fun hc => wpAny_bind (look hk₂ fun h₃ tk₃ hk₃ => ⟨fun hc' => absurd hc' hc, fun _ => wpAny_pure (hq _ _ _ (I.keep hc (.inl rfl) hk₃))⟩)⟩)
      | false =>
        refine KFB.if_not rfl ?_
        exact wpAny_bind (look hk fun h₂ tk₂ hk₂ => ⟨fun hc => wpAny_pure (hq _ _ _ (I.drop hc (.inl rfl) hk₂)), fun hc => wpAny_pure (hq _ _ _ (I.keep hc (.inl rfl) hk₂))⟩)
end
end
theorem tl_args (a b : Value) : argsOk "str.translate" ⟨[a, b], []⟩ := by unfold argsOk; kernel_rfl
theorem At.mem {O : Type} {C : Cx O} {o : O} {ρ : Loc} {fz : Led} {s : Shared} (h : At C o ρ fz s) {q : Addr × Obj} (hq : q ∈ fz) : s.heap.get? q.1 = some q.2 := by
  obtain ⟨hp, tk, m, R, rfl, F, N, rp, ap, lc, rf⟩ := h
  exact (N q (List.mem_append_right _ (List.mem_append_left _ hq))).1
section
variable {prog : Program} {w : World} {K : Frag} {p : Program} {loose : List Str} {mean : ExcName → Option Value} {mg mb : Str → Option Value} {A₀ : Around} {base : Heap} {outer : List Env} {A : Around} {env : Env} {O : Type} {C : Cx O} {d : Nat}
theorem store_ref (R : Rim K p loose mean mg mb A₀ base outer A env C.h₀ C.L d) {o : O} {ρ : Loc} {fz : Led} {s : Shared} (h : At C o ρ fz s) {x : Str} {v : Value} (hk : env.kindOf x = some .local) (hρ : ρ.lookup x = none) (hr : ∀ q ∈ C.refs, q.1 ≠ x) {Q : Unit → Shared → Prop} {E : Value → Shared → Prop}
    (hq : ∀ s', At (refsCx C ((x, v) :: C.refs)) o ρ fz s' → Q () s') : wpAny (model prog w) A (storeName env x v) Q E s := by
  obtain ⟨h', tk, m, Rl, rfl, F, N, rp, ap, lc, rf⟩ := h
  have hf := R.hk
  have hL := R.hl
  refine wpAny_storeName_local hk (by rw [hL]; exact F.ns) (fun h2 hn hs => hq _ ?_) (by rw [hf]; rfl)
  rw [hL] at hn hs
  refine ⟨h2, tk + 1, _, Rl, rfl, F.set hn hs, N.set hs, rp, ap, fun y u hy => ?_, fun p hp => ?_⟩
  · have e : y ≠ x := by rintro rfl; rw [hρ] at hy; cases hy
    obtain ⟨v', h1, h2⟩ := lc y u hy
    exact ⟨v', by rw [if_neg e]; exact h1, h2⟩
  · rcases List.mem_cons.mp hp with rfl | hp
    · exact if_pos rfl
    · show (if p.1 = x then some v else m p.1) = some p.2
      rw [if_neg (hr p hp)]; exact rf p hp
theorem maketrans_ok (R : Rim K p loose mean mg mb A₀ base outer A env C.h₀ C.L d) {o : O} {ρ : Loc} {fz : Led} {s : Shared} (h : At C o ρ fz s) {v : PySem.Expr} {f : Str} {e : PySem.Expr} {p1 p2 p3 p4 p5 pa : Pos} {W M : List Nat}
    (hw : EvOk prog w A C o env ρ (.Attribute v f pa) (.str (S W))) (he : EvOk prog w A C o env ρ e (.str (S M))) (hs : notStar e = true) (hz : M.length ≤ 100) (l1 : (p1.endLine == p2.line) = true) (l2 : (p3.endLine == p4.line) = true)
    (g1 : nsIn K mainGlobals "dict" = some none) (k1 : env.kindOf "dict" = some .globalImplicit) {Q E : Value → Shared → Prop}
    (hq : ∀ fz' s' tb ob, Sub fz fz' → At C o ρ fz' s' → (tb, ob) ∈ fz' → ob.IsDictOf (PySem.intKind prog w) (intNones (onceL M [])) → (tb == sysModules) = false → Q (.ref tb) s') :
    wpAny (model prog w) A (eval (.Call (.Attribute (.Attribute v f pa) (ofString "maketrans") p1) [.Call (.Attribute (.Name (ofString "dict") p5) (ofString "fromkeys") p3) [e] [] p4] [] p2) env) Q E s := by
  have hlow := modules_low R.T.nolimit
  refine MethodCall_ (pl := _) ?_ (meth_eqA (by rfl) (by simp) l1)
  refine hw fz s _ E h fun fz₁ s₁ v1 s1 h1 x1 => ?_
  cases x1
  refine mt_getm ?_
  refine callWith_builtin1 (args_cons ?_ rfl) rfl rfl
  have h2 := h1.toks (s₁.toks + 1)
  refine MethodCall_ (pl := _) ?_ (meth_eq (v := .Name (ofString "dict") p5) rfl (by simp [hs]) (by simp) l2)
  refine blt_name R h2 (x := ofString "dict") g1 (v := .type "dict") (by kernel_rfl) (by decide) k1 (by decide) ?_
  obtain ⟨m₂, news₂, F₂, N₂⟩ := h2.now'
  refine fk_getm F₂ R.X ?_
  have h3 := (h2.push fkObj).toks (s₁.toks + 1 + 1)
  refine fk_callWith hs (args_cons ?_ (star_off hs))
  refine he _ _ _ E h3 fun fz₃ s₃ v3 s3 h3' x3 => ?_
  cases x3
  refine args_nil ⟨h3'.mem (s3 _ (.head _)), ?_⟩
  refine fk_call R.hh hz (h3'.mem (s3 _ (.head _))) fun h₄ tk₄ hd kb => ?_
  have hn3 : s₃.heap.get? s₃.heap.objs.size = none := by
    cases q : s₃.heap.get? s₃.heap.objs.size with
    | none => rfl
    | some o' => exact absurd (Heap.lt_size q) (Nat.lt_irrefl _)
  obtain ⟨m₃, news₃, F₃, N₃⟩ := h3'.now'
  have hm3 := F₃.notModules hlow
  have h4 := h3'.keep kb tk₄
  refine args_nil ?_
  refine wpAny_call (codeAny_call_builtin_code (Code.quiet_builtin _ (by decide +kernel)) (wpAny_of_eq (mt_check _) (codeAny_builtin mt_entry ?_)))
  refine mt_run (s := { s₃ with heap := h₄, toks := tk₄ }) hd hm3 hz fun h₅ tk₅ hd5 kb5 => ?_
  obtain ⟨ob, hob, hobd⟩ := Heap.dictOf_iff.mp hd5
  obtain ⟨m₄, news₄, F₄, N₄⟩ := h4.now'
  have hn4 : h₄.get? h₄.objs.size = none := by
    cases q : h₄.get? h₄.objs.size with
    | none => rfl
    | some o' => exact absurd (Heap.lt_size q) (Nat.lt_irrefl _)
  exact hq _ _ _ ob (fun p hp => .tail _ (s3 p (.tail _ (s1 p hp)))) (h4.grow kb5 hn4 hob tk₅) (.head _) hobd (F₄.notModules hlow)
theorem translate_ok (R : Rim K p loose mean mg mb A₀ base outer A env C.h₀ C.L d) {o : O} {ρ : Loc} {fz : Led} {s : Shared} (h : At C o ρ fz s) {v : PySem.Expr} {f : Str} {x : Str} {p1 p2 p3 pa : Pos} {W cs : List Nat} {tb : Addr} {ob : Obj}
    (hw : EvOk prog w A C o env ρ (.Attribute v f pa) (.str (S W))) (hx : (x, Value.ref tb) ∈ C.refs) (hk : env.kindOf x = some .local) (hd : (x == ("__debug__" : Str)) = false) (hob : (tb, ob) ∈ fz) (hd1 : ob.IsDictOf (PySem.intKind prog w) (intNones cs)) (hm : (tb == sysModules) = false) (hz : W.length ≤ 1000) (hne : W ≠ []) (l1 : (p1.endLine == p2.line) = true) {Q E : Value → Shared → Prop}
    (hq : ∀ fz' s' v', Sub fz fz' → At C o ρ fz' s' → VR fz' (.str (S (W.filter fun c => decide (c ∉ cs)))) v' → Q v' s') :
    wpAny (model prog w) A (eval (.Call (.Attribute (.Attribute v f pa) (ofString "translate") p1) [.Name x p3] [] p2) env) Q E s := by
  refine MethodCall_ (pl := _) ?_ (meth_eqA (by rfl) (by simp) l1)
  refine hw fz s _ E h fun fz₁ s₁ v1 s1 h1 x1 => ?_
  cases x1
  refine getMethod_builtin (M := model prog w) (v := .str (S W) _) (T := "str") (name := ofString "translate") (id := "str.translate") ?a1 ?a2 ?a3 ?a4 ?a5 ?a6
  case a1 => exact typeIs_str _ _ _
  case a2 => exact PySem.F.plainAttrs_str
  case a3 => exact PySem.F.slot_str_translate
  case a4 => exact tl_type
  case a5 => intro _ e; cases e
  refine callWith_more (by rfl) (args_cons ?_ rfl)
  refine rf_ref R hx hk hd fz₁ s₁ _ E h1 fun s₂ h2 => ?_
  refine args_nil ?_
  have hob2 := h2.mem (s1 _ hob)
  have hd2 : s₂.heap.DictOf (PySem.intKind prog w) tb (intNones cs) := Heap.dictOf_iff.mpr ⟨ob, hob2, hd1⟩
  refine wpAny_call_entry PySem.F.slot_str_translate (typeIs_str _ _ _) tl_entry (tl_run (A := A.in1) R.hh hd2 hm hz hne fun h₃ tk₃ u kb => ?_) (tl_args _ _)
  exact ⟨_, rfl, hq fz₁ _ _ s1 (h2.keep kb tk₃) (.str _ _)⟩
end
section
set_option tactic.hygienic true
noncomputable def Steps {O : Type} (prog : Program) (w : World) (A : Around) (C : Cx O) (env : Env) (X : Nat → Led → Shared → (Value → Shared → Prop) → Prop) : O → Loc → List Stmt → O → Loc → Prop
  | o, ρ, [], o', ρ' => o' = o ∧ ρ' = ρ
  | o, ρ, st :: r, o', ρ' => ∃ o₁ ρ₁, StOk prog w A C env X o ρ st (o₁, ρ₁, .next) ∧ Steps prog w A C env X o₁ ρ₁ r o' ρ'
noncomputable def runs {O : Type} (I : Ifc O) (env : Env) (n : Nat) : O → Loc → List Stmt → Option (O × Loc)
  | o, ρ, [] => some (o, ρ)
  | o, ρ, st :: r => match runS I env n o ρ st with
    | some (o₁, ρ₁, .next) => runs I env n o₁ ρ₁ r
    | _ => none
section
variable {prog : Program} {w : World} {A : Around} {O : Type} {C : Cx O} {env : Env} {I : Ifc O} {X : Nat → Led → Shared → (Value → Shared → Prop) → Prop} {sa : Addr}
theorem runs_ok (K : IfcOk prog w A C env I X sa) {n : Nat} : ∀ {b : List Stmt} {o o' : O} {ρ ρ' : Loc}, runs I env n o ρ b = some (o', ρ') → Steps prog w A C env X o ρ b o' ρ'
  | [], o, o', ρ, ρ', h => by cases h; exact ⟨rfl, rfl⟩
  | st :: r, o, o', ρ, ρ', h => by
    unfold runs at h
    split at h
    · rename_i o₁ ρ₁ q
      exact ⟨o₁, ρ₁, runS_ok K q, runs_ok K h⟩
    · cases h
theorem steps_then : ∀ {b rest : List Stmt} {o o' : O} {ρ ρ' : Loc} {fz : Led} {s : Shared} {Q : Flow → Shared → Prop} {E : Value → Shared → Prop}, Steps prog w A C env X o ρ b o' ρ' → At C o ρ fz s →
    (∀ fz' s', Sub fz fz' → At C o' ρ' fz' s' → wpAny (model prog w) A (execs rest env) Q E s') → wpAny (model prog w) A (execs (b ++ rest) env) Q E s
  | [], rest, o, o', ρ, ρ', fz, s, Q, E, h, hA, hq => by
    obtain ⟨rfl, rfl⟩ := h
    exact hq fz s (fun _ h => h) hA
  | st :: b, rest, o, o', ρ, ρ', fz, s, Q, E, ⟨o₁, ρ₁, h1, h2⟩, hA, hq => by
    rw [List.cons_append]
    refine wpAny_execs_cons (h1 fz s _ _ hA fun fz₁ s₁ s1 hA1 => ?_)
    exact steps_then h2 hA1 fun fz₂ s₂ s2 hA2 => hq fz₂ s₂ (fun p hp => s2 p (s1 p hp)) hA2
theorem At.drop {o : O} {ρ ρ' : Loc} {fz : Led} {s : Shared} (h : At C o ρ fz s) (hs : ∀ x v, ρ'.lookup x = some v → ρ.lookup x = some v) : At C o ρ' fz s := by
  obtain ⟨hp, tk, m, R, rfl, F, N, rp, ap, lc, rf⟩ := h
  exact ⟨hp, tk, m, R, rfl, F, N, rp, ap, fun x v hx => lc x v (hs x v hx), rf⟩
end
noncomputable abbrev inN : List Str := ["infile", "posix", "punctuation_chars"]
noncomputable def lexFl : List Str := ["instream", "infile", "posix", "eof", "commenters", "wordchars", "whitespace", "whitespace_split", "quotes", "escape", "escapedquotes", "state", "pushback", "lineno", "debug", "token", "filestack", "source", "_punctuation_chars", "_pushback_chars"]
noncomputable abbrev inI : Ifc OF := objI inN lexFl
noncomputable abbrev inE (L : Addr) : Env := envOf "shlex.__init__" (fscope (meth 19 0)) L 646 (.ref 645)
theorem lex_fl (P : Params) : fldsOk (KS P) 722 lexFl = true := by kernel_rfl
theorem in_names : ∀ L, ∀ x ∈ inN, (inE L).kindOf x = some .local := by
  intro L
  have : ∀ x ∈ inN, (inE 0).kindOf x = some .local := by decide +kernel
  exact this
noncomputable abbrev inB : List Stmt := fbody (meth 19 0)
noncomputable def inMid (i n : Nat) : List Stmt := (inB.drop i).take n
noncomputable def wl0 (posix : Bool) : List Nat := [97, 98, 99, 100, 102, 101, 103, 104, 105, 106, 107, 108, 109, 110, 111, 112, 113, 114, 115, 116, 117, 118, 119, 120, 121, 122, 65, 66, 67, 68, 69, 70, 71, 72, 73, 74, 75, 76, 77, 78, 79, 80, 81, 82, 83, 84, 85, 86, 87, 88, 89, 90, 48, 49, 50, 51, 52, 53, 54, 55, 56, 57, 95] ++
  (bif posix then [223, 224, 225, 226, 227, 228, 229, 230, 231, 232, 233, 234, 235, 236, 237, 238, 239, 240, 241, 242, 243, 244, 245, 246, 248, 249, 250, 251, 252, 253, 254, 255, 192, 193, 194, 195, 196, 197, 198, 199, 200, 201, 202, 203, 204, 205, 206, 207, 208, 209, 210, 211, 212, 213, 214, 216, 217, 218, 219, 220, 221, 222] else [])
noncomputable def wl (posix : Bool) : List Nat := wl0 posix ++ [126, 45, 46, 47, 42, 63, 61]
noncomputable abbrev fsA (io : Addr) : OF := [("instream", .r io), ("infile", .v .none)]
noncomputable abbrev fsB (io : Addr) (posix : Bool) : OF := [("instream", .r io), ("infile", .v .none), ("posix", .v (.bool posix)), ("eof", .v (eofV posix)), ("commenters", .v (.str "#")), ("wordchars", .v (.str (S (wl0 posix)))), ("whitespace", .v (.str " \t\r\n")), ("whitespace_split", .v (.bool false)),
   ("quotes", .v (.str "'\"")), ("escape", .v (.str "\\")), ("escapedquotes", .v (.str "\"")), ("state", .v (.str " "))]
noncomputable abbrev fsC (io pb : Addr) (posix : Bool) : OF := fsB io posix ++ ([("pushback", .r pb)] : OF)
noncomputable abbrev fsD (io pb : Addr) (posix : Bool) : OF := fsB io posix ++ ([("pushback", .r pb), ("lineno", .v (.int 1)), ("debug", .v (.int 0)), ("token", .v (.str ""))] : OF)
noncomputable abbrev fsE (io pb fsA : Addr) (posix : Bool) : OF := fsB io posix ++ ([("pushback", .r pb), ("lineno", .v (.int 1)), ("debug", .v (.int 0)), ("token", .v (.str "")), ("filestack", .r fsA)] : OF)
noncomputable abbrev fsF (io pb fsA : Addr) (posix : Bool) : OF := fsB io posix ++ ([("pushback", .r pb), ("lineno", .v (.int 1)), ("debug", .v (.int 0)), ("token", .v (.str "")), ("filestack", .r fsA), ("source", .v .none)] : OF)
noncomputable abbrev fsG (io pb fsA : Addr) (posix : Bool) (M : Str) : OF := fsB io posix ++ ([("pushback", .r pb), ("lineno", .v (.int 1)), ("debug", .v (.int 0)), ("token", .v (.str "")), ("filestack", .r fsA), ("source", .v .none), ("_punctuation_chars", .v (.str M))] : OF)
noncomputable abbrev rhI (posix : Bool) (M : Str) : Loc := [("infile", .none), ("posix", .bool posix), ("punctuation_chars", .str M)]
theorem in_mid1 (L io : Addr) (posix : Bool) (M : Str) : runs inI (inE L) 60 (fsA io) (rhI posix M) (inMid 2 11) = some (fsB io posix, rhI posix M) := by cases posix <;> kernel_rfl
theorem in_mid2 (L io pb : Addr) (posix : Bool) (M : Str) : runs inI (inE L) 60 (fsC io pb posix) (rhI posix M) (inMid 14 3) = some (fsD io pb posix, rhI posix M) := by cases posix <;> kernel_rfl
theorem in_mid3 (L io pb fsA : Addr) (posix : Bool) (M : Str) : runs inI (inE L) 60 (fsE io pb fsA posix) (rhI posix M) (inMid 18 1) = some (fsF io pb fsA posix, rhI posix M) := by cases posix <;> kernel_rfl
theorem in_mid4 (L io pb fsA : Addr) (posix : Bool) (M : Str) : runs inI (inE L) 60 (fsF io pb fsA posix) (rhI posix M) (inMid 20 1) = some (fsG io pb fsA posix M, rhI posix M) := by cases posix <;> kernel_rfl
end
section
variable {prog : Program} {w : World} {Pm : Params} {p : Program} {loose : List Str} {mean : ExcName → Option Value} {mg mb : Str → Option Value} {A₀ : Around} {base : Heap} {outer : List Env} {A : Around} {env : Env} {O : Type} {C : Cx O} {d : Nat} {o₀ : O} {x dx : Addr}
theorem dq_attr (R : Rim (KS Pm) p loose mean mg mb A₀ base outer A env C.h₀ C.L d) {fs : OF} {ρ : Loc} {fz : Led} {s : Shared} (h : At (objCx C o₀ 722 x dx) fs ρ fz s) {a : Str} {p1 p2 p3 p4 p5 : Pos} (hself : ((ofString "self"), Value.ref x) ∈ C.refs) (hk : env.kindOf "self" = some .local)
    (hd : env.kindOf "deque" = some .globalImplicit) (ha : lexFl.contains a = true) (hz : fs.length ≤ 100) {Q : Flow → Shared → Prop} {E : Value → Shared → Prop}
    (hq : ∀ s' pb, At (objCx (plusCx C pb (dqObj 0 [])) o₀ 722 x dx) (putF a (.r pb) fs) ρ fz s' → Q .next s') :
    wpAny (model prog w) A (exec (.Assign [.Attribute (.Name (ofString "self") p1) a p2] (.Call (.Name (ofString "deque") p3) [] [] p4) p5) env) Q E s := by
  refine plainObj_wpAny_Assign_Attribute (Call_Name rfl ?_) (swap_off rfl)
  refine rf_glob (C := objCx C o₀ 722 x dx) R (v := .type "collections.deque") (by kernel_rfl) hd (by decide) fz s _ E h fun s₁ h1 => ?_
  refine callWith_type0 (dq_new fun h' he ho hsz => ?_)
  have h2 := obj_plus h1 he ho
  refine rf_ref (C := objCx (plusCx C _ (dqObj 0 [])) o₀ 722 x dx) R hself hk (by decide) fz _ _ E h2 fun s₃ h3 => ?_
  exact obj_set (C := plusCx C _ (dqObj 0 [])) R (lex_fl Pm) h3 ha hz (f := .r _) rfl fun s₄ h4 => hq s₄ _ h4
theorem ev_isstr (R : Rim (KS Pm) p loose mean mg mb A₀ base outer A env C.h₀ C.L d) {o : O} {ρ : Loc} {e : PySem.Expr} {t : Str} {p1 p2 p3 : Pos} (he : EvOk prog w A C o env ρ e (.str t)) (hs : notStar e = true) (k1 : env.kindOf "isinstance" = some .globalImplicit) (k2 : env.kindOf "str" = some .globalImplicit) :
    EvOk prog w A C o env ρ (.Call (.Name (ofString "isinstance") p1) [e, .Name (ofString "str") p2] [] p3) (.bool true) := by
  intro fz s Q E h hq
  refine Call_Name rfl (blt_name R h (x := ofString "isinstance") (by kernel_rfl) (v := .builtin "isinstance") (by kernel_rfl) (by decide) k1 (by decide) ?_)
  refine callWith_builtin1 (args_cons (he fz s _ E h fun fz₁ s₁ v s1 h1 x1 => ?_) (star_off hs)) (star_off hs) rfl
  refine args_cons (blt_name R h1 (x := ofString "str") (by kernel_rfl) (v := .type "str") (by kernel_rfl) (by decide) k2 (by decide) ?_) rfl
  refine args_nil ?_
  cases x1
  refine call_isinstance (isinstance_true (Tx := "str") (T := "str") (by first | rfl | kernel_rfl) (by rw [isSubtype_type]; kernel_rfl)) ⟨typeIs_str _ _ _, ?_⟩
  exact hq fz₁ s₁ _ s1 h1 (.bool true)
theorem sio_expr (R : Rim (KS Pm) p loose mean mg mb A₀ base outer A env C.h₀ C.L (d + 3)) {o : O} {ρ : Loc} {fz : Led} {s : Shared} (h : At C o ρ fz s) {e : PySem.Expr} {T : Str} {p1 p2 : Pos} (he : EvOk prog w A C o env ρ e (.str T)) (hs : notStar e = true) (k1 : env.kindOf "StringIO" = some .globalImplicit) {Q E : Value → Shared → Prop}
    (hq : ∀ fz' s' io id, Sub fz fz' → At (objCx C o 587 io id) (ioOF (.str T)) ρ fz' s' → Q (.ref io) s') :
    wpAny (model prog w) A (eval (.Call (.Name (ofString "StringIO") p1) [e] [] p2) env) Q E s := by
  refine Call_Name rfl ?_
  refine rf_glob R (v := .ref 587) (by kernel_rfl) k1 (by decide) fz s _ E h fun s₁ h1 => ?_
  refine callWith_K (first := []) R.X (by kernel_rfl) (args_cons (he fz s₁ _ E h1 fun fz₂ s₂ v s2 h2 x2 => args_nil ?_) (star_off hs)) (star_off hs) rfl
  obtain ⟨m₂, news₂, F₂, N₂⟩ := h2.now'
  refine ⟨R.knows F₂, wpAny_call ?_⟩
  refine sio_make (d := d + 1) R h2 fun fz₃ s₃ io id s3 h3 => ?_
  refine sio_init_call (d := d) ((R.under 587 [v] [])) h3 (x2.mono s3) fun fz₄ s₄ s4 h4 => ?_
  exact ⟨rfl, hq fz₄ s₄ io id (fun p hp => s4 p (s3 p (s2 p hp))) h4⟩
end
noncomputable abbrev in0 : Stmt := Stmt.If (Expr.Call (Expr.Name (ofString "isinstance") ⟨473, 11, 473, 21⟩) [Expr.Name (ofString "instream") ⟨473, 22, 473, 30⟩, Expr.Name (ofString "str") ⟨473, 32, 473, 35⟩] [] ⟨473, 11, 473, 36⟩) [Stmt.Assign [Expr.Name (ofString "instream") ⟨474, 12, 474, 20⟩] (Expr.Call (Expr.Name (ofString "StringIO") ⟨474, 23, 474, 31⟩) [Expr.Name (ofString "instream") ⟨474, 32, 474, 40⟩] [] ⟨474, 23, 474, 41⟩) ⟨474, 12, 474, 41⟩] [] ⟨473, 8, 474, 41⟩
noncomputable abbrev in1 : Stmt := Stmt.If (Expr.Compare (Expr.Name (ofString "instream") ⟨475, 11, 475, 19⟩) [CmpOp.IsNot] [Expr.Constant Const.none 0 ⟨475, 27, 475, 31⟩] ⟨475, 11, 475, 31⟩) [Stmt.Assign [Expr.Attribute (Expr.Name (ofString "self") ⟨476, 12, 476, 16⟩) (ofString "instream") ⟨476, 12, 476, 25⟩] (Expr.Name (ofString "instream") ⟨476, 28, 476, 36⟩) ⟨476, 12, 476, 36⟩, Stmt.Assign [Expr.Attribute (Expr.Name (ofString "self") ⟨477, 12, 477, 16⟩) (ofString "infile") ⟨477, 12, 477, 23⟩] (Expr.Name (ofString "infile") ⟨477, 26, 477, 32⟩) ⟨477, 12, 477, 32⟩] [Stmt.Assign [Expr.Attribute (Expr.Name (ofString "self") ⟨479, 12, 479, 16⟩) (ofString "instream") ⟨479, 12, 479, 25⟩] (Expr.Call (Expr.Name (ofString "_wall") ⟨479, 28, 479, 33⟩) [Expr.Constant (Const.int 34) 0 ⟨479, 34, 479, 36⟩] [] ⟨479, 28, 479, 37⟩) ⟨479, 12, 479, 37⟩, Stmt.Assign [Expr.Attribute (Expr.Name (ofString "self") ⟨480, 12, 480, 16⟩) (ofString "infile") ⟨480, 12, 480, 23⟩] (Expr.Constant Const.none 0 ⟨480, 26, 480, 30⟩) ⟨480, 12, 480, 30⟩] ⟨475, 8, 480, 30⟩
noncomputable abbrev in13 : Stmt := Stmt.Assign [Expr.Attribute (Expr.Name (ofString "self") ⟨496, 8, 496, 12⟩) (ofString "pushback") ⟨496, 8, 496, 21⟩] (Expr.Call (Expr.Name (ofString "deque") ⟨496, 24, 496, 29⟩) [] [] ⟨496, 24, 496, 31⟩) ⟨496, 8, 496, 31⟩
noncomputable abbrev in17 : Stmt := Stmt.Assign [Expr.Attribute (Expr.Name (ofString "self") ⟨500, 8, 500, 12⟩) (ofString "filestack") ⟨500, 8, 500, 22⟩] (Expr.Call (Expr.Name (ofString "deque") ⟨500, 25, 500, 30⟩) [] [] ⟨500, 25, 500, 32⟩) ⟨500, 8, 500, 32⟩
noncomputable abbrev in19 : Stmt := Stmt.If (Expr.UnaryOp UnaryOp.Not (Expr.Name (ofString "punctuation_chars") ⟨502, 15, 502, 32⟩) ⟨502, 11, 502, 32⟩) [Stmt.Assign [Expr.Name (ofString "punctuation_chars") ⟨503, 12, 503, 29⟩] (Expr.Constant (Const.str (ofString "")) 0 ⟨503, 32, 503, 34⟩) ⟨503, 12, 503, 34⟩] [Stmt.If (Expr.Compare (Expr.Name (ofString "punctuation_chars") ⟨504, 13, 504, 30⟩) [CmpOp.Is] [Expr.Constant (Const.bool true) 0 ⟨504, 34, 504, 38⟩] ⟨504, 13, 504, 38⟩) [Stmt.Assign [Expr.Name (ofString "punctuation_chars") ⟨505, 12, 505, 29⟩] (Expr.Constant (Const.str (ofString "();<>|&")) 0 ⟨505, 32, 505, 41⟩) ⟨505, 12, 505, 41⟩] [] ⟨504, 8, 505, 41⟩] ⟨502, 8, 505, 41⟩
noncomputable abbrev in21a : Stmt := Stmt.Assign [Expr.Attribute (Expr.Name (ofString "self") ⟨508, 12, 508, 16⟩) (ofString "_pushback_chars") ⟨508, 12, 508, 32⟩] (Expr.Call (Expr.Name (ofString "deque") ⟨508, 35, 508, 40⟩) [] [] ⟨508, 35, 508, 42⟩) ⟨508, 12, 508, 42⟩
noncomputable abbrev in21b : Stmt := Stmt.AugAssign (Expr.Attribute (Expr.Name (ofString "self") ⟨509, 12, 509, 16⟩) (ofString "wordchars") ⟨509, 12, 509, 26⟩) Operator.Add (Expr.Constant (Const.str (ofString "~-./*?=")) 0 ⟨509, 30, 509, 39⟩) ⟨509, 12, 509, 39⟩
noncomputable abbrev in21c : Stmt := Stmt.Assign [Expr.Name (ofString "t") ⟨510, 12, 510, 13⟩] (Expr.Call (Expr.Attribute (Expr.Attribute (Expr.Name (ofString "self") ⟨510, 16, 510, 20⟩) (ofString "wordchars") ⟨510, 16, 510, 30⟩) (ofString "maketrans") ⟨510, 16, 510, 40⟩) [Expr.Call (Expr.Attribute (Expr.Name (ofString "dict") ⟨510, 41, 510, 45⟩) (ofString "fromkeys") ⟨510, 41, 510, 54⟩) [Expr.Name (ofString "punctuation_chars") ⟨510, 55, 510, 72⟩] [] ⟨510, 41, 510, 73⟩] [] ⟨510, 16, 510, 74⟩) ⟨510, 12, 510, 74⟩
noncomputable abbrev in21d : Stmt := Stmt.Assign [Expr.Attribute (Expr.Name (ofString "self") ⟨511, 12, 511, 16⟩) (ofString "wordchars") ⟨511, 12, 511, 26⟩] (Expr.Call (Expr.Attribute (Expr.Attribute (Expr.Name (ofString "self") ⟨511, 29, 511, 33⟩) (ofString "wordchars") ⟨511, 29, 511, 43⟩) (ofString "translate") ⟨511, 29, 511, 53⟩) [Expr.Name (ofString "t") ⟨511, 54, 511, 55⟩] [] ⟨511, 29, 511, 56⟩) ⟨511, 12, 511, 56⟩
noncomputable abbrev in21 : Stmt := Stmt.If (Expr.Name (ofString "punctuation_chars") ⟨507, 11, 507, 28⟩) [in21a, in21b, in21c, in21d] [] ⟨507, 8, 511, 56⟩
theorem in_body : inB = in0 :: in1 :: (inMid 2 11 ++ (in13 :: (inMid 14 3 ++ (in17 :: (inMid 18 1 ++ (in19 :: (inMid 20 1 ++ [in21]))))))) := by kernel_rfl
noncomputable abbrev fsH (io pb fsA pc : Addr) (posix : Bool) (M : Str) (W : Str) : OF := [("instream", .r io), ("infile", .v .none), ("posix", .v (.bool posix)), ("eof", .v (eofV posix)), ("commenters", .v (.str "#")), ("wordchars", .v (.str W)), ("whitespace", .v (.str " \t\r\n")), ("whitespace_split", .v (.bool false)),
   ("quotes", .v (.str "'\"")), ("escape", .v (.str "\\")), ("escapedquotes", .v (.str "\"")), ("state", .v (.str " ")), ("pushback", .r pb), ("lineno", .v (.int 1)), ("debug", .v (.int 0)), ("token", .v (.str "")), ("filestack", .r fsA), ("source", .v .none), ("_punctuation_chars", .v (.str M)), ("_pushback_chars", .r pc)]
theorem in_21b (L io pb fsA pc : Addr) (posix : Bool) (M : Str) : runs inI (inE L) 60 (fsH io pb fsA pc posix M (S (wl0 posix))) (rhI posix M) [in21b] = some (fsH io pb fsA pc posix M (S (wl posix)), rhI posix M) := by cases posix <;> kernel_rfl
theorem is_true_no (x : Str) (t : Tok) : compareOp .Is (.str x t) (.bool true) = pure (.bool false) := by kernel_rfl
noncomputable def initCx {O : Type} (C : Cx O) (o₀ : O) (x dx : Addr) : Cx (OF ⊕ (LP × LO)) :=
  { s₀ := C.s₀, h₀ := C.h₀, L := C.L, rest := C.rest, refs := C.refs
    Rep := fun o fz R => match o with
      | .inl fs => (objCx C o₀ 722 x dx).Rep fs fz R
      | .inr q => lexRep q.1 q.2 fz R
    mono := fun o fz fz' R hs h => match o, h with
      | .inl fs, h => (objCx C o₀ 722 x dx).mono fs fz fz' R hs h
      | .inr q, h => lexRep_mono q.1 q.2 fz fz' R hs h }
noncomputable def toLex {O : Type} (C : Cx O) (P : LP) : Cx LO := { s₀ := C.s₀, h₀ := C.h₀, L := C.L, rest := C.rest, refs := C.refs, Rep := lexRep P, mono := lexRep_mono P }
noncomputable def lo0 : LO := ⟨.str " ", .str "", .int 1, .int 0, []⟩
theorem lookup_more {k : Str} {u : V} {ρ : Loc} (hk : ρ.lookup k = none) : ∀ x v, ρ.lookup x = some v → ((k, u) :: ρ).lookup x = some v := fun x v hx => by
  rw [List.lookup_cons]
  by_cases e : (x == k) = true
  · have := eq_of_beq e
    subst this; rw [hk] at hx; cases hx
  · have e : (x == k) = false := by simpa using e
    rw [e]; exact hx
section
variable {O : Type} {C : Cx O} {o₀ : O} {x dx io id pb fs pc : Addr}
theorem lex_made (hR : ∀ fz R, C.Rep o₀ fz R → R = []) {T M W : List Nat} {posix : Bool} {ρ : Loc} {fz : Led} {s : Shared}
    (h : At (objCx (plusCx (plusCx (plusCx (objCx C o₀ 587 io id) pb (dqObj 0 [])) fs (dqObj 0 [])) pc (dqObj 0 [])) (ioOF (.str (S T))) 722 x dx) (fsH io pb fs pc posix (S M) (S W)) ρ fz s) :
    At (toLex C ⟨x, dx, io, id, pb, fs, pc, T, M, W, posix⟩) lo0 ρ fz s := by
  obtain ⟨hp, tk, m, R', rfl, F, N, ⟨es, n, _, rfl, h1, ⟨_, rfl, ⟨_, rfl, ⟨_, rfl, ⟨es2, n2, R, rfl, h2, rp, d5, a5⟩, a4⟩, a3⟩, a2⟩, d1, a1⟩, ap, lc, rf⟩ := h
  have e := hR _ _ rp
  subst e
  have t1 := a1 _ (.head _)
  have t2 := a1 _ (.tail _ (.head _))
  have t3 := a1 _ (.tail _ (.tail _ (.head _)))
  have t4 := a1 _ (.tail _ (.tail _ (.tail _ (.head _))))
  have t5 := a1 _ (.tail _ (.tail _ (.tail _ (.tail _ (.head _)))))
  have u1 := a2 _ (.head _)
  have u2 := a2 _ (.tail _ (.head _))
  have u3 := a2 _ (.tail _ (.tail _ (.head _)))
  have u4 := a2 _ (.tail _ (.tail _ (.tail _ (.head _))))
  have v1 := a3 _ (.head _)
  have v2 := a3 _ (.tail _ (.head _))
  have v3 := a3 _ (.tail _ (.tail _ (.head _)))
  have w1 := a4 _ (.head _)
  have w2 := a4 _ (.tail _ (.head _))
  have mem : ∀ q : Addr × Obj, q ∈ [(x, instObj 722 dx), (dx, dictOf es n), (io, instObj 587 id), (id, dictOf es2 n2), (pb, dqObj 0 []), (fs, dqObj 0 []), (pc, dqObj 0 [])] → q ∈ (x, instObj 722 dx) :: (dx, dictOf es n) :: (pc, dqObj 0 []) :: (fs, dqObj 0 []) :: (pb, dqObj 0 []) :: (io, instObj 587 id) :: [(id, dictOf es2 n2)] := fun q hq => by
    simp only [List.mem_cons, List.not_mem_nil, or_false] at hq ⊢
    rcases hq with h | h | h | h | h | h | h
    · exact .inl h
    · exact .inr (.inl h)
    · exact .inr (.inr (.inr (.inr (.inr (.inl h)))))
    · exact .inr (.inr (.inr (.inr (.inr (.inr h)))))
    · exact .inr (.inr (.inr (.inr (.inl h))))
    · exact .inr (.inr (.inr (.inl h)))
    · exact .inr (.inr (.inl h))
  refine ⟨hp, tk, m, _, rfl, F, fun q hq => ?_, ⟨es, n, es2, n2, 0, 0, 0, [], rfl, h1, h2, .nil, ?_⟩, fun q hq => ap q (mem q hq), lc, rf⟩
  · rcases List.mem_append.mp hq with hq | hq
    · exact N q (List.mem_append_left _ (mem q hq))
    · exact N q (List.mem_append_right _ hq)
  · simp only [List.nodup_cons, List.mem_cons, List.not_mem_nil, or_false, not_or, List.nodup_nil, not_false_eq_true, and_true]
    exact ⟨⟨d1, Ne.symm t4.1, Ne.symm t5.1, Ne.symm t3.1, Ne.symm t2.1, Ne.symm t1.1⟩, ⟨Ne.symm t4.2, Ne.symm t5.2, Ne.symm t3.2, Ne.symm t2.2, Ne.symm t1.2⟩, ⟨d5, w1, v2, u3⟩, ⟨w2, v3, u4⟩, ⟨v1, u2⟩, u1⟩
end
section
variable {prog : Program} {w : World} {Pm : Params} {p : Program} {loose : List Str} {mean : ExcName → Option Value} {mg mb : Str → Option Value} {A₀ : Around} {base : Heap} {outer : List Env} {A : Around} {env : Env} {O : Type}
noncomputable abbrev wordsOf (posix : Bool) (M : List Nat) : List Nat := (wl posix).filter fun c => decide (c ∉ onceL M [])
noncomputable abbrev in0R (T M : Str) (posix : Bool) : Loc := ("instream", .str T) :: rhI posix M
theorem init_body {C : Cx O} {o₀ : O} {x dx L : Addr} (hR : ∀ fz R, C.Rep o₀ fz R → R = []) (hrefs : C.refs = [((ofString "self"), Value.ref x)]) {d : Nat} (R : Rim (KS Pm) p loose mean mg mb A₀ base outer A (inE L) C.h₀ C.L (d + 3)) {fz : Led} {s : Shared} {T M : List Nat} {posix : Bool} (hM : M ≠ []) (hz : M.length ≤ 100)
    (h : At (objCx C o₀ 722 x dx) [] (in0R (S T) (S M) posix) fz s) {Q : Flow → Shared → Prop} {E : Value → Shared → Prop}
    (hq : ∀ fz' s' P, Sub fz fz' → P.lx = x → P.T = T → P.M = M → P.W = wordsOf posix M → P.posix = posix → At (toLex C P) lo0 [] fz' s' → Q .next s') :
    wpAny (model prog w) A (execs inB (inE L)) Q E s := by
  have ks : (inE L).kindOf "self" = some .local := by kernel_rfl
  have kd : (inE L).kindOf "deque" = some .globalImplicit := by kernel_rfl
  have ki : (inE L).kindOf "instream" = some .local := by kernel_rfl
  rw [in_body]
  have hoff : ∀ {v : Value} {rf : List (Str × Value)}, (∀ q ∈ rf, inN.contains q.1 = false) → ∀ q ∈ (ofString "instream", v) :: rf, inN.contains q.1 = false := fun hr q hq => by
    cases hq with
    | head => exact (show inN.contains (ofString "instream") = false by decide +kernel)
    | tail _ hq => exact hr q hq
  have hoff0 : ∀ q ∈ C.refs, inN.contains q.1 = false := fun q hq => by
    rw [hrefs] at hq
    cases hq with
    | head => exact (show inN.contains (ofString "self") = false by decide +kernel)
    | tail _ hq => cases hq
  have en : ∀ {fs : OF}, EvOk prog w A (objCx C o₀ 722 x dx) fs (inE L) (in0R (S T) (S M) posix) (.Name (ofString "instream") ⟨473, 22, 473, 30⟩) (.str (S T)) := fun {fs} fz s Q E h hq => by
    obtain ⟨h', tk, m, Rl, rfl, F, N, rp, ap, lc, rf⟩ := id h
    obtain ⟨v', h1, h2⟩ := lc (ofString "instream") (.str (S T)) rfl
    refine wpAny_Name (wpAny_loadName_local R.hk ki (by rw [R.hl]; exact F.ns) h1 ?_) (by decide)
    exact hq fz _ v' (fun _ h => h) h h2
  have en2 : ∀ {fs : OF}, EvOk prog w A (objCx C o₀ 722 x dx) fs (inE L) (in0R (S T) (S M) posix) (.Name (ofString "instream") ⟨474, 32, 474, 40⟩) (.str (S T)) := fun {fs} fz s Q E h hq => by
    obtain ⟨h', tk, m, Rl, rfl, F, N, rp, ap, lc, rf⟩ := id h
    obtain ⟨v', h1, h2⟩ := lc (ofString "instream") (.str (S T)) rfl
    refine wpAny_Name (wpAny_loadName_local R.hk ki (by rw [R.hl]; exact F.ns) h1 ?_) (by decide)
    exact hq fz _ v' (fun _ h => h) h h2
  refine wpAny_execs_cons (wpAny_If (tr_plain (ev_isstr (C := objCx C o₀ 722 x dx) R en rfl (by kernel_rfl) (by kernel_rfl)) (t := true) rfl rfl fz s _ E h fun fz₁ s₁ s1 h1 => ?_))
  simp only [if_true]
  refine wpAny_execs_cons (wpAny_Assign_Name (sio_expr (C := objCx C o₀ 722 x dx) (d := d) R h1 en2 rfl (by kernel_rfl) fun fz₂ s₂ io id s2 h2 => ?_) (swap_off rfl))
  have h3 := (obj_swap h2).drop (ρ' := rhI posix (S M)) (lookup_more (by rfl))
  refine store_ref (C := objCx (objCx C o₀ 587 io id) (ioOF (.str (S T))) 722 x dx) R h3 ki (by rfl) (fun q hq => ?_) fun s₄ h4 => ?_
  · have hq : q ∈ C.refs := hq
    rw [hrefs] at hq
    cases hq with
    | head => exact (show (ofString "self") ≠ ofString "instream" by decide)
    | tail _ hq => cases hq
  refine wpAny_execs_nil ?_
  dsimp only
  have h4' : At (objCx (refsCx (objCx C o₀ 587 io id) ((ofString "instream", .ref io) :: C.refs)) (ioOF (.str (S T))) 722 x dx) [] (rhI posix (S M)) fz₂ s₄ := h4
  generalize hCs : refsCx (objCx C o₀ 587 io id) ((ofString "instream", .ref io) :: C.refs) = Cs at h4'
  have eh : Cs.h₀ = C.h₀ := by rw [← hCs]; rfl
  have eL : Cs.L = C.L := by rw [← hCs]; rfl
  have er : Cs.refs = (ofString "instream", .ref io) :: C.refs := by rw [← hCs]; rfl
  have Rs : Rim (KS Pm) p loose mean mg mb A₀ base outer A (inE L) Cs.h₀ Cs.L (d + 3) := by rw [eh, eL]; exact R
  have hrs : ((ofString "self"), Value.ref x) ∈ Cs.refs := by rw [er, hrefs]; exact .tail _ (.head _)
  have hri : ((ofString "instream"), Value.ref io) ∈ Cs.refs := by rw [er]; exact .head _
  have hos : ∀ q ∈ Cs.refs, inN.contains q.1 = false := by rw [er]; exact hoff hoff0
  have IK1 := obj_ok (prog := prog) (w := w) (K := KS Pm) (C := Cs) (o₀ := ioOF (.str (S T))) (cls := 722) (x := x) (dx := dx) (names := inN) (flds := lexFl) (X := fun _ _ _ _ => False) Rs (lex_fl Pm) hrs hos (in_names _) ks
  refine wpAny_execs_cons (wpAny_If (wpAny_isTrue_Compare1 (rf_ref (C := objCx Cs _ 722 x dx) Rs hri ki (by decide) fz₂ s₄ _ E h4' fun s₅ h5 => wpAny_Constant_none ?_) rfl))
  refine isNot_none (truth_sound (fz := fz₂) (.bool true) rfl fun tk => ?_)
  simp only [if_true]
  have h5' := h5.toks tk
  refine wpAny_execs_cons (plainObj_wpAny_Assign_Attribute (rf_ref (C := objCx Cs _ 722 x dx) Rs hri ki (by decide) fz₂ _ _ E h5' fun s₆ h6 => ?_) (swap_off rfl))
  refine rf_ref (C := objCx Cs _ 722 x dx) Rs hrs ks (by decide) fz₂ _ _ E h6 fun s₇ h7 => ?_
  refine obj_set (C := Cs) Rs (lex_fl Pm) h7 (name := ofString "instream") (by kernel_rfl) (by decide) (f := .r io) rfl fun s₈ h8 => ?_
  dsimp only
  refine wpAny_execs_cons ((st_attr IK1 (a := ofString "infile") (v := .none) (o' := fsA io) rfl (ev_name (IK1.orc _) (x := ofString "infile") (show inN.contains (ofString "infile") = true by decide +kernel) (by decide +kernel) (by rfl)) (by kernel_rfl)) fz₂ s₈ _ _ h8 fun fz₉ s₉ s9 h9 => ?_)
  refine wpAny_execs_nil ?_
  dsimp only at h9 ⊢
  refine steps_then (runs_ok IK1 (in_mid1 L io posix (S M))) h9 fun fz₁₀ s₁₀ s10 h10 => ?_
  refine wpAny_execs_cons (dq_attr (C := Cs) Rs h10 hrs ks kd (by kernel_rfl) (by simp) fun s₁₁ pb h11 => ?_)
  dsimp only
  have h11' : At (objCx (plusCx Cs pb (dqObj 0 [])) (ioOF (.str (S T))) 722 x dx) (fsC io pb posix) (rhI posix (S M)) fz₁₀ s₁₁ := h11
  have IK2 := obj_ok (prog := prog) (w := w) (K := KS Pm) (C := plusCx Cs pb (dqObj 0 [])) (o₀ := ioOF (.str (S T))) (cls := 722) (x := x) (dx := dx) (names := inN) (flds := lexFl) (X := fun _ _ _ _ => False) Rs (lex_fl Pm) hrs hos (in_names _) ks
  refine steps_then (runs_ok IK2 (in_mid2 L io pb posix (S M))) h11' fun fz₁₂ s₁₂ s12 h12 => ?_
  refine wpAny_execs_cons (dq_attr (C := plusCx Cs pb (dqObj 0 [])) Rs h12 hrs ks kd (by kernel_rfl) (by simp) fun s₁₃ fsa h13 => ?_)
  dsimp only
  have h13' : At (objCx (plusCx (plusCx Cs pb (dqObj 0 [])) fsa (dqObj 0 [])) (ioOF (.str (S T))) 722 x dx) (fsE io pb fsa posix) (rhI posix (S M)) fz₁₂ s₁₃ := h13
  have IK3 := obj_ok (prog := prog) (w := w) (K := KS Pm) (C := plusCx (plusCx Cs pb (dqObj 0 [])) fsa (dqObj 0 [])) (o₀ := ioOF (.str (S T))) (cls := 722) (x := x) (dx := dx) (names := inN) (flds := lexFl) (X := fun _ _ _ _ => False) Rs (lex_fl Pm) hrs hos (in_names _) ks
  refine steps_then (runs_ok IK3 (in_mid3 L io pb fsa posix (S M))) h13' fun fz₁₄ s₁₄ s14 h14 => ?_
  have hMs : truthV (.str (S M)) = some true := by
    show (if strOk (S M) then some (((S M).length : Int) != 0) else Option.none) = some true
    have h1 : (S M).length = M.length := by simp [PySem.Str.length]
    have h2 : strOk (S M) = true := strOk_S (by lia)
    rw [if_pos h2, h1]
    cases M with
    | nil => exact absurd rfl hM
    | cons c r =>
      have : (((c :: r).length : Int) != 0) = true := by
        rw [bne_iff_ne]; simp only [List.length_cons]; lia
      rw [this]
  have epc : ∀ {fs : OF} {pos}, EvOk prog w A (objCx (plusCx (plusCx Cs pb (dqObj 0 [])) fsa (dqObj 0 [])) (ioOF (.str (S T))) 722 x dx) fs (inE L) (rhI posix (S M)) (.Name (ofString "punctuation_chars") pos) (.str (S M)) := fun {fs pos} => ev_name (IK3.orc _) (x := ofString "punctuation_chars") (show inN.contains (ofString "punctuation_chars") = true by decide +kernel) (by decide +kernel) (by rfl)
  refine wpAny_execs_cons (wpAny_If (tr_not (tr_plain epc hMs rfl) fz₁₄ s₁₄ _ E h14 fun fz₁₅ s₁₅ s15 h15 => ?_))
  simp only [Bool.not_true, Bool.false_eq_true, if_false]
  refine wpAny_execs_cons (wpAny_If (wpAny_isTrue_Compare1 (epc fz₁₅ s₁₅ _ E h15 fun fz₁₆ s₁₆ v16 s16 h16 x16 => wpAny_Constant_bool ?_) rfl))
  cases x16
  rw [is_true_no]
  refine wpAny_pure (truth_sound (fz := fz₁₆) (.bool false) rfl fun tk => ?_)
  simp only [Bool.false_eq_true, if_false]
  refine wpAny_execs_nil ?_
  dsimp only
  refine wpAny_execs_nil ?_
  dsimp only
  refine steps_then (runs_ok IK3 (in_mid4 L io pb fsa posix (S M))) (h16.toks tk) fun fz₁₇ s₁₇ s17 h17 => ?_
  refine wpAny_execs_cons (wpAny_If (tr_plain epc hMs rfl fz₁₇ s₁₇ _ E h17 fun fz₁₈ s₁₈ s18 h18 => ?_))
  simp only [if_true]
  refine wpAny_execs_cons (dq_attr (C := plusCx (plusCx Cs pb (dqObj 0 [])) fsa (dqObj 0 [])) Rs h18 hrs ks kd (by kernel_rfl) (by simp) fun s₁₉ pc h19 => ?_)
  dsimp only
  have h19' : At (objCx (plusCx (plusCx (plusCx Cs pb (dqObj 0 [])) fsa (dqObj 0 [])) pc (dqObj 0 [])) (ioOF (.str (S T))) 722 x dx) (fsH io pb fsa pc posix (S M) (S (wl0 posix))) (rhI posix (S M)) fz₁₈ s₁₉ := h19
  have IK4 := obj_ok (prog := prog) (w := w) (K := KS Pm) (C := plusCx (plusCx (plusCx Cs pb (dqObj 0 [])) fsa (dqObj 0 [])) pc (dqObj 0 [])) (o₀ := ioOF (.str (S T))) (cls := 722) (x := x) (dx := dx) (names := inN) (flds := lexFl) (X := fun _ _ _ _ => False) Rs (lex_fl Pm) hrs hos (in_names _) ks
  refine steps_then (b := [in21b]) (rest := [in21c, in21d]) (runs_ok IK4 (in_21b L io pb fsa pc posix (S M))) h19' fun fz₂₀ s₂₀ s20 h20 => ?_
  have epc4 : ∀ {fs : OF} {pos}, EvOk prog w A (objCx (plusCx (plusCx (plusCx Cs pb (dqObj 0 [])) fsa (dqObj 0 [])) pc (dqObj 0 [])) (ioOF (.str (S T))) 722 x dx) fs (inE L) (rhI posix (S M)) (.Name (ofString "punctuation_chars") pos) (.str (S M)) := fun {fs pos} => ev_name (IK4.orc _) (x := ofString "punctuation_chars") (show inN.contains (ofString "punctuation_chars") = true by decide +kernel) (by decide +kernel) (by rfl)
  refine wpAny_execs_cons (wpAny_Assign_Name (maketrans_ok (C := objCx (plusCx (plusCx (plusCx Cs pb (dqObj 0 [])) fsa (dqObj 0 [])) pc (dqObj 0 [])) (ioOF (.str (S T))) 722 x dx) Rs h20 ((IK4.orc _).attr (ofString "wordchars") (.str (S (wl posix))) (by kernel_rfl) _ _ _) epc4 rfl hz (by rfl) (by rfl) (by kernel_rfl) (by kernel_rfl) fun fz₂₁ s₂₁ tb ob s21 h21 hm hob htb => ?_) (swap_off rfl))
  refine store_ref (C := objCx (plusCx (plusCx (plusCx Cs pb (dqObj 0 [])) fsa (dqObj 0 [])) pc (dqObj 0 [])) (ioOF (.str (S T))) 722 x dx) Rs h21 (by kernel_rfl) (by rfl) (fun q hq => ?_) fun s₂₂ h22 => ?_
  · have hq : q ∈ Cs.refs := hq
    rw [er, hrefs] at hq
    cases hq with
    | head => exact (show (ofString "instream") ≠ ofString "t" by decide)
    | tail _ hq =>
      cases hq with
      | head => exact (show (ofString "self") ≠ ofString "t" by decide)
      | tail _ hq => cases hq
  dsimp only
  have h22' : At (objCx (refsCx (plusCx (plusCx (plusCx Cs pb (dqObj 0 [])) fsa (dqObj 0 [])) pc (dqObj 0 [])) ((ofString "t", .ref tb) :: Cs.refs)) (ioOF (.str (S T))) 722 x dx) (fsH io pb fsa pc posix (S M) (S (wl posix))) (rhI posix (S M)) fz₂₁ s₂₂ := h22
  have ho5 : ∀ q ∈ ((ofString "t", Value.ref tb) :: Cs.refs), inN.contains q.1 = false := fun q hq => by
    cases hq with
    | head => exact (show inN.contains (ofString "t") = false by decide +kernel)
    | tail _ hq => exact hos q hq
  have IK5 := obj_ok (prog := prog) (w := w) (K := KS Pm) (C := refsCx (plusCx (plusCx (plusCx Cs pb (dqObj 0 [])) fsa (dqObj 0 [])) pc (dqObj 0 [])) ((ofString "t", .ref tb) :: Cs.refs)) (o₀ := ioOF (.str (S T))) (cls := 722) (x := x) (dx := dx) (names := inN) (flds := lexFl) (X := fun _ _ _ _ => False) Rs (lex_fl Pm) (.tail _ hrs) ho5 (in_names _) ks
  refine wpAny_execs_cons (plainObj_wpAny_Assign_Attribute (translate_ok (C := objCx (refsCx (plusCx (plusCx (plusCx Cs pb (dqObj 0 [])) fsa (dqObj 0 [])) pc (dqObj 0 [])) ((ofString "t", .ref tb) :: Cs.refs)) (ioOF (.str (S T))) 722 x dx) Rs h22' ((IK5.orc _).attr (ofString "wordchars") (.str (S (wl posix))) (by kernel_rfl) _ _ _) (.head _) (by kernel_rfl) (by decide) hm hob htb (by cases posix <;> decide) (by cases posix <;> decide) (by rfl) fun fz₂₃ s₂₃ v₂₃ s23 h23 x23 => ?_) (swap_off rfl))
  refine rf_ref (C := objCx (refsCx (plusCx (plusCx (plusCx Cs pb (dqObj 0 [])) fsa (dqObj 0 [])) pc (dqObj 0 [])) ((ofString "t", .ref tb) :: Cs.refs)) (ioOF (.str (S T))) 722 x dx) Rs (.tail _ hrs) ks (by decide) fz₂₃ _ _ E h23 fun s₂₄ h24 => ?_
  refine obj_set (C := refsCx (plusCx (plusCx (plusCx Cs pb (dqObj 0 [])) fsa (dqObj 0 [])) pc (dqObj 0 [])) ((ofString "t", .ref tb) :: Cs.refs)) Rs (lex_fl Pm) h24 (name := ofString "wordchars") (by kernel_rfl) (by simp) (f := .v _) x23 fun s₂₅ h25 => ?_
  refine wpAny_execs_nil ?_
  dsimp only
  refine wpAny_execs_nil ?_
  subst hCs
  have h26 := lex_made (C := refsCx C ((ofString "t", .ref tb) :: (ofString "instream", .ref io) :: C.refs)) (o₀ := o₀) (io := io) (id := id) (pb := pb) (fs := fsa) (pc := pc) (x := x) (dx := dx) (T := T) (M := M) (W := wordsOf posix M) (posix := posix) hR h25
  refine hq fz₂₃ s₂₅ ⟨x, dx, io, id, pb, fsa, pc, T, M, wordsOf posix M, posix⟩ (fun q hq => s23 q (s21 q (s20 q (s18 q (s17 q (s16 q (s15 q (s14 q (s12 q (s10 q (s9 q (s2 q (s1 q hq))))))))))))) rfl rfl rfl rfl rfl ?_
  obtain ⟨hp, tk, m, R', e1, e2, e3, e4, e5, e6, e7⟩ := h26
  exact ⟨hp, tk, m, R', e1, e2, e3, e4, e5, fun _ _ h => (by cases h), fun q hq => e7 q (.tail _ (.tail _ hq))⟩
theorem init_call {C : Cx O} {o₀ : O} {x dx : Addr} (hR : ∀ fz R, C.Rep o₀ fz R → R = []) {d : Nat} (R : Rim (KS Pm) p loose mean mg mb A₀ base outer A env C.h₀ C.L (d + 4)) {ρ : Loc} {fz : Led} {s : Shared} {T M : List Nat} {posix : Bool} (hM : M ≠ []) (hz : M.length ≤ 100) {v1 v2 : Value}
    (h : At (objCx C o₀ 722 x dx) [] ρ fz s) (hv1 : VR fz (.str (S T)) v1) (hv2 : VR fz (.str (S M)) v2) {Re : Result → Shared → Prop}
    (hq : ∀ fz' s' P, Sub fz fz' → P.lx = x → P.T = T → P.M = M → P.W = wordsOf posix M → P.posix = posix → At (toLex C P) lo0 ρ fz' s' → Re (.ok (.ret .none)) s') :
    codeAny (model prog w) A (.call (.ref 646) ⟨[.ref x, v1, .none, .bool posix, v2], []⟩) Re s := by
  obtain ⟨m₀, news₀, F₀, N₀⟩ := h.now'
  have h0 : At (initCx C o₀ x dx) (.inl []) ρ fz s := h.re
  refine call_enter (C := initCx C o₀ x dx) (d := d + 3) (Post := fun o' dd => (∃ P, o' = .inr (P, lo0) ∧ P.lx = x ∧ P.T = T ∧ P.M = M ∧ P.W = wordsOf posix M ∧ P.posix = posix) ∧ dd = .none) R h0 (name := "__init__") (qual := "shlex.__init__") (params := fpar (meth 19 0)) (body := fbody (meth 19 0)) (scope := fscope (meth 19 0)) (dV := .ref 639) (kV := .none) (doc := .none) (pm := .str "cpy313.shlex" 1001) (cdv := .ref 645) (ct := .none) (oc := .type "function") (an := none) (od := none) (osl := #[]) (f := 646)
    (binds := [("self", .ref x), ("instream", v1), ("infile", .none), ("posix", .bool posix), ("punctuation_chars", v2)])
    (by kernel_rfl) (by kernel_rfl) (kp_binds (R.knows F₀) (fun S => by kernel_rfl)) (fun y hy => ?_) (by kernel_rfl) (by kernel_rfl) (by kernel_rfl) (by decide +kernel) (ρ' := in0R (S T) (S M) posix) (refs' := [("self", .ref x)]) (fun y v hy => ?_) (fun q hq => by simp only [List.mem_singleton] at hq; subst hq; rfl)
    (fun g L' s' R' h' => ?_) fun fz' s' o' dd v e sb hA hv => ?_
  · simp only [List.mem_cons, List.not_mem_nil, or_false] at hy
    rcases hy with rfl | rfl | rfl | rfl | rfl <;> kernel_rfl
  · rw [List.lookup_cons] at hy
    split at hy
    · rename_i e; cases hy; cases eq_of_beq e; exact ⟨_, rfl, hv1⟩
    · rw [List.lookup_cons] at hy
      split at hy
      · rename_i e; cases hy; cases eq_of_beq e; exact ⟨_, rfl, .none⟩
      · rw [List.lookup_cons] at hy
        split at hy
        · rename_i e; cases hy; cases eq_of_beq e; exact ⟨_, rfl, .bool _⟩
        · rw [List.lookup_cons] at hy
          split at hy
          · rename_i e; cases hy; cases eq_of_beq e; exact ⟨_, rfl, hv2⟩
          · cases hy
  · refine init_body (C := calleeCx C g L' [((ofString "self"), Value.ref x)]) (o₀ := o₀) (x := x) (dx := dx) (L := L') hR rfl R' hM hz h'.re fun fz₂ s₂ P s2 e1 e2 e3 e4 e5 h2 => ?_
    exact ⟨fz₂, .inr (P, lo0), [], .none, s2, h2.re, .none, ⟨P, rfl, e1, e2, e3, e4, e5⟩, rfl⟩
  · obtain ⟨⟨P, rfl, e1, e2, e3, e4, e5⟩, rfl⟩ := e
    cases hv
    exact hq fz' s' P sb e1 e2 e3 e4 e5 hA.re
theorem lexer_makes : makesIn (KS Pm) 722 = true := by kernel_rfl
theorem lexer_init : findIn (KS Pm) (.ref 722) "__init__" = some (some (.ref 646)) := by kernel_rfl
theorem shlex_expr {C : Cx O} {o₀ : O} (hR : ∀ fz R, C.Rep o₀ fz R → R = []) {d : Nat} (R : Rim (KS Pm) p loose mean mg mb A₀ base outer A env C.h₀ C.L (d + 5)) {ρ : Loc} {fz : Led} {s : Shared} {T M : List Nat} {posix : Bool} (hM : M ≠ []) (hz : M.length ≤ 100) (h : At C o₀ ρ fz s)
    {args : List PySem.Expr} {p1 p2 : Pos} (ha : EvsOk prog w A C o₀ env ρ args [.str (S T), .none, .bool posix, .str (S M)]) (hs : args.all notStar = true) (hne : args ≠ []) (k1 : env.kindOf "shlex" = some .globalImplicit) {Q E : Value → Shared → Prop}
    (hq : ∀ fz' s' P, Sub fz fz' → P.T = T → P.M = M → P.W = wordsOf posix M → P.posix = posix → At (toLex C P) lo0 ρ fz' s' → Q (.ref P.lx) s') :
    wpAny (model prog w) A (eval (.Call (.Name (ofString "shlex") p1) args [] p2) env) Q E s := by
  refine Call_Name rfl ?_
  refine rf_glob R (v := .ref 722) (by kernel_rfl) k1 (by decide) fz s _ E h fun s₁ h1 => ?_
  cases args with
  | nil => exact absurd rfl hne
  | cons e rest =>
    rw [List.all_cons, Bool.and_eq_true] at hs
    refine callWith_K (first := []) R.X (by kernel_rfl) (ha p2 fz s₁ _ E h1 fun fz₂ s₂ vs s2 h2 x2 => ?_) (star_off hs.1) (plain_off p2 hs.2)
    obtain ⟨hp, tk, m, Rl, rfl, F, N, rp, ap, lc, rf⟩ := id h2
    refine ⟨R.knows F, ?_⟩
    cases x2 with
    | cons y1 x2 =>
    cases x2 with
    | cons y2 x2 =>
    cases x2 with
    | cons y3 x2 =>
    cases x2 with
    | cons y4 x2 =>
    cases x2
    cases y2
    cases y3
    refine call_cls (s := { C.s₀ with heap := hp, toks := tk }) F R.X N lexer_makes lexer_init (by kernel_rfl) fun x dx h' F' N' hlt hlt2 => ?_
    have h3 : At (objCx C o₀ 722 x dx) [] ρ fz₂ { C.s₀ with heap := h', toks := tk } := by
      refine ⟨h', tk, m, (x, instObj 722 dx) :: (dx, dictOf [] 0) :: Rl, rfl, F', N', ⟨[], 0, Rl, rfl, trivial, rp, Nat.ne_of_gt hlt2, fun q hq => ?_⟩, fun q hq r hr => ?_, lc, rf⟩
      · have := hlt q (List.mem_append_left _ hq)
        exact ⟨Nat.ne_of_lt (Nat.lt_trans this hlt2), Nat.ne_of_lt this⟩
      · have k := hlt r (List.mem_append_right _ hr)
        rcases List.mem_cons.mp hq with rfl | hq
        · exact Nat.ne_of_gt (Nat.lt_trans k hlt2)
        · rcases List.mem_cons.mp hq with rfl | hq
          · exact Nat.ne_of_gt k
          · exact ap q hq r hr
    refine init_call (d := d) hR (R.under 722 _ []) hM hz h3 y1 y4 fun fz₄ s₄ P s4 e1 e2 e3 e4 e5 h4 => ?_
    subst e1
    exact ⟨rfl, hq fz₄ s₄ P (fun q hq => s4 q (s2 q hq)) e2 e3 e4 e5 h4⟩
end
def ExcHeld {O : Type} (C : Cx O) (base : Heap) (l : List Env) (o : O) (ρ : Loc) (fz : Led) (k : Nat) (e : Addr) (s : Shared) : Prop :=
  ∃ h tk g m R t tx B, s = { C.s₀ with heap := h, toks := tk } ∧ Fr C.h₀ C.L g m ∧ g.UpToSlots h ∧ base.StaysIn B ∧ (∀ q ∈ R ++ (fz ++ C.rest), B.get? q.1 = some q.2 ∧ base.get? q.1 = none) ∧ Heap.HeldW B l e (.type "ValueError") (.ref t) C.L h ∧ B.get? t = none ∧
    h.TupAt t [.str (xtext k) tx] ∧ C.Rep o fz R ∧ Apart R (fz ++ C.rest) ∧ (∀ x v, ρ.lookup x = some v → ∃ v', m x = some v' ∧ VR fz v v') ∧ ∀ p ∈ C.refs, m p.1 = some p.2
section
variable {M : Model} {A : Around} {O : Type} {C : Cx O} {base : Heap} {outer : List Env} {env : Env} {o : O} {ρ : Loc} {fz : Led} {k : Nat} {e : Addr} {s : Shared} {E : Value → Shared → Prop} {Q : Unit → Shared → Prop}
theorem note_exc (hA : A.frames = some (env :: outer)) (hf : env.frame = some C.L) (h : ExcAt C base (env :: outer) o ρ fz k e s) (hq : ∀ s', ExcHeld C base (env :: outer) o ρ fz k e s' → Q () s') : wpAny M A (noteFrame (.ref e) env) Q E s := by
  obtain ⟨hp, tk, g, m, R, t, tx, rfl, F, up, ⟨⟨B, b1, b2, fl, b4⟩, tup⟩, rp, ap, lc, rf⟩ := h
  refine wpAny_looks_onW hA hf fl fun h' hh up' => hq _ ⟨h', tk, g, m, R, t, tx, B, rfl, F, up.trans up', b1, b2, hh, b4, tup.of_slots up', rp, ap, lc, rf⟩
theorem note_again (hf : env.frame = some C.L) (h : ExcHeld C base (env :: outer) o ρ fz k e s) (hq : Q () s) : wpAny M A (noteFrame (.ref e) env) Q E s := by
  obtain ⟨hp, tk, g, m, R, t, tx, B, rfl, F, up, b1, b2, hh, b4, tup, rp, ap, lc, rf⟩ := h
  exact wpAny_noteFrame_againW hf hh.2.2.2 hq
theorem back_exc (hf : env.frame = some C.L) (h : ExcHeld C base (env :: outer) o ρ fz k e s) (hq : ∀ s', ExcHeld C base (env :: outer) o ρ fz k e s' → E (.ref e) s') : cameBackBy M A env E (.ref e) s := by
  obtain ⟨hp, tk, g, m, R, t, tx, B, rfl, F, up, b1, b2, ⟨c1, c2, c3, c4⟩, b4, tup, rp, ap, lc, rf⟩ := h
  unfold cameBackBy
  obtain ⟨oe, ws, T, oT, ts, he, hcls, hd, h1, hnT, hTe, hT, hdT, h3⟩ := id c4
  refine wpAny_bind (wpAny_field he hd h1 ?_)
  rw [if_neg (show ¬ (Value.ref T == Value.none) = true from by simp)]
  rw [hf]
  refine flight_some c1 c3 c4 fun h' k1 k2 k3 k4 => hq _ ⟨h', tk, g, m, R, t, tx, B, rfl, F, up.trans fun b o hb hn => ⟨o.slots, k4 b o hb hn⟩, b1, b2, ⟨k1, c2, k2, k3⟩, b4, ?_, rp, ap, lc, rf⟩
  exact tup.of_slots fun b o hb hn => ⟨o.slots, k4 b o hb hn⟩
end
section
variable {M : Model} {A : Around} {O : Type} {C : Cx O} {env : Env} {o : O} {ρ : Loc} {fz : Led} {s : Shared} {E : Value → Shared → Prop} {Q : Unit → Shared → Prop}
theorem put_ref (hk : env.scope.kind = .function) (hl : env.locals = C.L) (h : At C o ρ fz s) {x : Str} {v : Value} (hx : env.kindOf x = some .local) (hρ : ρ.lookup x = none) (hr : ∀ q ∈ C.refs, q.1 ≠ x)
    (hq : ∀ s', At (refsCx C ((x, v) :: C.refs)) o ρ fz s' → Q () s') : wpAny M A (storeName env x v) Q E s := by
  obtain ⟨h', tk, m, Rl, rfl, F, N, rp, ap, lc, rf⟩ := h
  refine wpAny_storeName_local hx (by rw [hl]; exact F.ns) (fun h2 hn hs => hq _ ?_) (by rw [hk]; rfl)
  rw [hl] at hn hs
  refine ⟨h2, tk + 1, _, Rl, rfl, F.set hn hs, N.set hs, rp, ap, fun y u hy => ?_, fun p hp => ?_⟩
  · have e : y ≠ x := by rintro rfl; rw [hρ] at hy; cases hy
    obtain ⟨v', h1, h2⟩ := lc y u hy
    exact ⟨v', by rw [if_neg e]; exact h1, h2⟩
  · rcases List.mem_cons.mp hp with rfl | hp
    · exact if_pos rfl
    · show (if p.1 = x then some v else m p.1) = some p.2
      rw [if_neg (hr p hp)]; exact rf p hp
theorem put_val (hk : env.scope.kind = .function) (hl : env.locals = C.L) (h : At C o ρ fz s) {x : Str} {d : V} {v : Value} (hx : env.kindOf x = some .local) (hv : VR fz d v) (hr : ∀ q ∈ C.refs, q.1 ≠ x)
    (hq : ∀ s', At C o ((x, d) :: ρ) fz s' → Q () s') : wpAny M A (storeName env x v) Q E s := by
  obtain ⟨h', tk, m, R, rfl, F, N, rp, ap, lc, rf⟩ := h
  refine wpAny_storeName_local hx (by rw [hl]; exact F.ns) (fun h2 hn hs => hq _ ?_) (by rw [hk]; rfl)
  rw [hl] at hn hs
  refine ⟨h2, tk + 1, _, R, rfl, F.set hn hs, N.set hs, rp, ap, fun y u hy => ?_, fun p hp => ?_⟩
  · by_cases e : y = x
    · subst e
      rw [List.lookup_cons, beq_self_eq_true] at hy
      cases hy
      exact ⟨v, if_pos rfl, hv⟩
    · rw [List.lookup_cons, beq_false_of_ne e] at hy
      obtain ⟨v', h1, h2⟩ := lc y u hy
      exact ⟨v', by rw [if_neg e]; exact h1, h2⟩
  · show (if p.1 = x then some v else m p.1) = some p.2
    rw [if_neg (hr p hp)]; exact rf p hp
theorem name_off (hk : env.scope.kind = .function) (hl : env.locals = C.L) {x : Str} {v₀ : Value} {rf : List (Str × Value)} (h : At (refsCx C ((x, v₀) :: rf)) o ρ fz s) {pos : Pos} (hx : env.kindOf x = some .local) (hρ : ρ.lookup x = none) (hr : ∀ q ∈ rf, q.1 ≠ x)
    (hq : ∀ s', At (refsCx C rf) o ρ fz s' → Q () s') : wpAny M A (do bindName env x .none; unbindBehindTheSuite env x pos) Q E s := by
  obtain ⟨h', tk, m, R, rfl, F, N, rp, ap, lc, rfs⟩ := h
  refine wpAny_nameGoes_keeps hx (by rw [hl]; exact F.ns) (by rw [hk]; rfl) fun h2 v hn hs => hq _ ?_
  rw [hl] at hn hs
  refine ⟨h2, tk + 1, _, R, rfl, F.set hn hs, N.set hs, rp, ap, fun y u hy => ?_, fun p hp => ?_⟩
  · have e : y ≠ x := by rintro rfl; rw [hρ] at hy; cases hy
    obtain ⟨v', h1, h2⟩ := lc y u hy
    exact ⟨v', by rw [if_neg e]; exact h1, h2⟩
  · show (if p.1 = x then v else m p.1) = some p.2
    rw [if_neg (hr p hp)]; exact rfs p (.tail _ hp)
end
section
variable {prog : Program} {w : World} {K : Frag} {p : Program} {loose : List Str} {mean : ExcName → Option Value} {mg mb : Str → Option Value} {A₀ : Around} {base : Heap} {outer : List Env} {A : Around} {env : Env} {O : Type} {C : Cx O} {d : Nat} {o : O} {ρ : Loc} {fz : Led} {s : Shared}
theorem name_blt {A' : Around} (R : Rim K p loose mean mg mb A₀ base outer A env C.h₀ C.L d) (h : At C o ρ fz s) {x : Str} {pos : Pos} {v : Value} {Q E : Value → Shared → Prop} (e : nsIn K mainGlobals x = some none) (hv : bootBuiltins x = some v) (hn : x ≠ "__name__") (hx : env.kindOf x = some .globalImplicit) (hd : (x == ("__debug__" : Str)) = false) (hq : Q v s) :
    wpAny (model prog w) A' (eval (.Name x pos) env) Q E s := by
  obtain ⟨m, news, F, N⟩ := h.now'
  refine Name_function_global R.hk hx (loadGlobal_builtin (env := env) ?_ (mg_none R.X R.T.g e) ?_ ((R.T.builtins x hn).trans hv) hq) hd
  · rw [R.hg]; exact R.T.g.keeps F.keep
  · rw [R.hb]; exact R.T.b.keeps F.keep
theorem name_ref {A' : Around} (R : Rim K p loose mean mg mb A₀ base outer A env C.h₀ C.L d) (h : At C o ρ fz s) {x : Str} {v : Value} {pos : Pos} (hr : (x, v) ∈ C.refs) (hk : env.kindOf x = some .local) (hd : (x == ("__debug__" : Str)) = false) {Q E : Value → Shared → Prop} (hq : Q v s) : wpAny (model prog w) A' (eval (.Name x pos) env) Q E s := by
  obtain ⟨h', tk, m, Rl, rfl, F, N, rp, ap, lc, rf⟩ := id h
  exact wpAny_Name (wpAny_loadName_local R.hk hk (by rw [R.hl]; exact F.ns) (rf _ hr) hq) hd
noncomputable abbrev hdW (p1 p2 p3 p4 p5 p6 p7 : Pos) : ExceptHandler := ExceptHandler.ExceptHandler (some (Expr.Name (ofString "ValueError") p1)) (some (ofString "fault")) [Stmt.Assign [Expr.Name (ofString "words") p2] (Expr.Call (Expr.Name (ofString "str") p3) [Expr.Name (ofString "fault") p4] [] p5) p6] p7
theorem caught (R : Rim K p loose mean mg mb A₀ base outer A env C.h₀ C.L d) (hb : C.h₀ = base) (hu : A.units + 2 < cLine) {k : Nat} {e : Addr} (h : ExcHeld C base (env :: outer) o ρ fz k e s) {p1 p2 p3 p4 p5 p6 p7 : Pos}
    (g1 : nsIn K mainGlobals "ValueError" = some none) (g2 : nsIn K mainGlobals "str" = some none) (k1 : env.kindOf "ValueError" = some .globalImplicit) (k2 : env.kindOf "str" = some .globalImplicit) (k3 : env.kindOf "fault" = some .local) (k4 : env.kindOf "words" = some .local)
    (hρ : ρ.lookup (ofString "fault") = none) (hr : ∀ q ∈ C.refs, q.1 ≠ "fault" ∧ q.1 ≠ "words") {Q : Flow → Shared → Prop} {E : Value → Shared → Prop}
    (hq : ∀ fz' s', Sub fz fz' → At C o ((ofString "words", .str (xtext k)) :: ρ) fz' s' → Q .next s') :
    wpAny (model prog w) A (setFlight (.ref e) none) (fun _ s₃ => wpAny (model prog w) A (handleBy (.ref e) env [hdW p1 p2 p3 p4 p5 p6 p7]) Q E s₃) E s := by
  obtain ⟨hp, tk, g, m, Rl, t, tx, B, rfl, F, up, b1, b2, hh, b4, tup, rp, ap, lc, rf⟩ := h
  subst hb
  refine wpAny_landsW hh fun h₅ hfl₅ up₅ => ?_
  have hfl₅' := flyingW_base b1 hfl₅
  have F₅ := F.of_stays hfl₅'.1 (up.trans up₅)
  obtain ⟨ob, hob, hobc⟩ := hfl₅'.there
  have A5 : At (C := trivCx C.s₀ C.h₀ C.L) () [] [] { C.s₀ with heap := h₅, toks := tk } := ⟨h₅, tk, m, [], rfl, F₅, fun _ hq => (by cases hq), rfl, fun _ hq => (by cases hq), fun _ _ h => (by cases h), fun _ hq => (by cases hq)⟩
  refine wpAny_handleBy_builtin_as (X := "ValueError") (T := "ValueError") (b := true) PySem.F.isExc_ValueError PySem.F.notTuple_ValueError (by rw [isSubtype_type]; kernel_rfl) (name_blt (C := trivCx C.s₀ C.h₀ C.L) R A5 (x := ofString "ValueError") g1 (v := .type "ValueError") (by kernel_rfl) (by decide) k1 (by decide) ⟨rfl, ⟨ob, hob, hobc⟩, ?_⟩)
  refine lands_againW hfl₅ fun h₆ hfl₆ up₆ => ?_
  have hfl₆' := flyingW_base b1 hfl₆
  have F₆ := F.of_stays hfl₆'.1 ((up.trans up₅).trans up₆)
  obtain ⟨oe, ws, hoe, hoec, hoed, hoe0⟩ := hfl₆'.first
  obtain ⟨ot, nt, hot, hotc, hotd⟩ := (tup.of_slots up₅).of_slots up₆
  have hL : B.get? C.L = none := by
    obtain ⟨_, ⟨L', _, hf, hn', _⟩, _⟩ := hfl₆.2.2.1
    have : L' = C.L := Option.some.inj (hf.symm.trans R.hf)
    subst this; exact hn'
  have N₁ : News C.h₀ C.L h₆ (Rl ++ (fz ++ C.rest)) := fun q hq => ⟨hfl₆.1 _ _ (b2 q hq).1, (fun z => by have := (b2 q hq).1; rw [z, hL] at this; cases this), (b2 q hq).2⟩
  have N₂ : News C.h₀ C.L h₆ [(e, oe), (t, ot)] := News.more F₆ (News.more F₆ News.nil hot (fun es n q => by rw [hotd] at q; cases q) (fresh_of_stays b1 b4)) hoe (fun es n q => by rw [hoed] at q; cases q) hfl₆'.2.1
  have A6 : At C o ρ ((e, oe) :: (t, ot) :: fz) { C.s₀ with heap := h₆, toks := tk } := by
    refine ⟨h₆, tk, m, Rl, rfl, F₆, fun q hq => ?_, C.mono _ _ _ _ (fun p hp => .tail _ (.tail _ hp)) rp, fun q hq r hr' => ?_, fun x v hx => ?_, rf⟩
    · simp only [List.mem_append, List.cons_append, List.mem_cons] at hq
      rcases hq with hq | rfl | rfl | hq | hq
      · exact N₁ q (by simp [hq])
      · exact N₂ _ (.head _)
      · exact N₂ _ (.tail _ (.head _))
      · exact N₁ q (by simp [hq])
      · exact N₁ q (by simp [hq])
    · have hBq := (b2 q (List.mem_append_left _ hq)).1
      simp only [List.cons_append, List.mem_cons] at hr'
      rcases hr' with rfl | rfl | hr'
      · intro z
        have z : q.1 = e := z
        have := hfl₆.2.1; rw [← z, hBq] at this; cases this
      · intro z
        have z : q.1 = t := z
        rw [← z, hBq] at b4; cases b4
      · exact ap q hq r hr'
    · obtain ⟨v', e1, e2⟩ := lc x v hx
      exact ⟨v', e1, e2.mono fun p hp => .tail _ (.tail _ hp)⟩
  refine put_ref R.hk R.hl A6 (x := ofString "fault") k3 hρ (fun q hq => (hr q hq).1) fun s₇ h7 => ?_
  refine wpAny_execs_cons (wpAny_Assign_Name (Call_Name rfl ?_) (swap_off rfl))
  refine name_blt (C := refsCx C ((ofString "fault", Value.ref e) :: C.refs)) R h7 (x := ofString "str") g2 (v := .type "str") (by kernel_rfl) (by decide) k2 (by decide) ?_
  refine PyProof.Rows.callWith_type1 (args_cons (name_ref (C := refsCx C ((ofString "fault", Value.ref e) :: C.refs)) R h7 (.head _) k3 (by decide) ?_) rfl) rfl rfl
  refine args_nil ?_
  have he7 := h7.mem (.head _)
  have ht7 := h7.mem (.tail _ (.head _))
  refine P.str_of_exc_one PySem.F.excStr_ValueError (t0 := t) (m := xtext k) (tk := tx) (by rw [Around.mark_units]; exact hu) ⟨oe, ws, he7, hoec, hoed, hoe0⟩ ⟨ot, nt, ht7, hotc, hotd⟩ ?_
  refine put_val (C := refsCx C ((ofString "fault", Value.ref e) :: C.refs)) R.hk R.hl h7 k4 (.str _ _) (fun q hq => ?_) fun s₈ h8 => ?_
  · rcases List.mem_cons.mp hq with rfl | hq
    · exact (show (ofString "fault") ≠ ofString "words" by decide)
    · exact (hr q hq).2
  refine wpAny_execs_nil ?_
  have hf8 : ((ofString "words", Dat.str (xtext k)) :: ρ).lookup (ofString "fault") = none := by
    rw [List.lookup_cons, show ((ofString "fault") == (ofString "words")) = false by decide]; exact hρ
  refine name_off (C := C) R.hk R.hl h8 k3 hf8 (fun q hq => (hr q hq).1) fun s₉ h9 => ?_
  exact hq _ s₉ (fun p hp => .tail _ (.tail _ hp)) h9
end
noncomputable def scal : V → Bool
  | .none => true
  | .bool _ => true
  | .int _ => true
  | .str _ => true
  | _ => false
theorem vr_scal {fz fz2 : Led} {d : V} {v : Value} (h : scal d = true) (x : VR fz d v) : VR fz2 d v := by
  cases x <;> first | (constructor; done) | cases h
noncomputable def scalF : List (Str × FV) → Bool
  | [] => true
  | y :: r => (match y.2 with | .v d => scal d | .r _ => true) && scalF r
theorem fs_scal {fz fz2 : Led} {fs : List (Str × FV)} {es : List DictEntry} (hs : scalF fs = true) (h : FsOk fz fs es) : FsOk fz2 fs es := by
  refine FsOk.ind (P := fun fs es => scalF fs = true → FsOk fz2 fs es) (fun _ => trivial) (fun y r e es h1 h2 _ ih hs => ?_) h hs
  unfold scalF at hs
  rw [Bool.and_eq_true] at hs
  refine ⟨h1, ?_, ih hs.2⟩
  obtain ⟨n, f⟩ := y
  cases f with
  | v d => exact vr_scal (by simpa using hs.1) h2
  | r a => exact h2
theorem stV_scal (n : Nat) : scal (stV n) = true := by
  unfold stV; split <;> rfl
theorem lo_scal (P : LP) (s : RS) : scalF (lexFields P (loOf s)) = true := by
  unfold lexFields loOf
  cases P.posix <;> cases s.st <;> rfl
theorem io_scal (P : LP) (s : RS) : scalF (ioFields P (loOf s)) = true := rfl
theorem dats_scal {fz fz2 : Led} : ∀ {cs : List Nat} {vs : List Value}, DatAll fz vs (cs.map fun c => .str (S [c])) → DatAll fz2 vs (cs.map fun c => .str (S [c])) := by
  intro cs
  induction cs with
  | nil => intro vs h; rw [datAll_nil h]; exact .nil
  | cons c cs ih => intro vs h; obtain ⟨v, us, rfl, a, b⟩ := datAll_more h; exact .cons (vr_scal rfl a) (ih b)
theorem rep_scal {P : LP} {s : RS} {fz fz2 R : Led} (h : lexRep P (loOf s) fz R) : lexRep P (loOf s) fz2 R := by
  obtain ⟨es, n, es2, n2, s1, s2, s3, vs, e, h1, h2, h3, h4⟩ := h
  exact ⟨es, n, es2, n2, s1, s2, s3, vs, e, fs_scal (lo_scal P s) h1, fs_scal (io_scal P s) h2, dats_scal h3, h4⟩
noncomputable def lwT (s₀ : Shared) (h₀ : Heap) (L : Addr) (P : LP) (tl : Addr) (vs : List Value) (k : Nat) : Cx LO :=
  { s₀ := s₀, h₀ := h₀, L := L, rest := [(tl, listOf vs.toArray k)], refs := [(ofString "told", .ref tl), (ofString "lexer", .ref P.lx)], Rep := lexRep P, mono := lexRep_mono P }
def scalR (ρ : Loc) : Prop := ∀ x v, ρ.lookup x = some v → scal v = true
theorem scalR_cons {x : Str} {d : V} {ρ : Loc} (h : scalR ρ) (hd : scal d = true) : scalR ((x, d) :: ρ) := fun y v hy => by
  rw [List.lookup_cons] at hy
  split at hy
  · cases hy; exact hd
  · exact h y v hy
section
variable {s₀ : Shared} {h₀ : Heap} {L tl : Addr} {P : LP} {vs : List Value} {k : Nat}
theorem At.thin {s : RS} {ρ : Loc} {fz fz₀ : Led} {st : Shared} (h : At (lwT s₀ h₀ L P tl vs k) (loOf s) ρ fz st) (hs : Sub fz₀ fz) (hρ : scalR ρ) : At (lwT s₀ h₀ L P tl vs k) (loOf s) ρ fz₀ st := by
  obtain ⟨hp, tk, m, R, rfl, F, N, rp, ap, lc, rf⟩ := h
  refine ⟨hp, tk, m, R, rfl, F, fun q hq => N q ?_, rep_scal rp, fun q hq r hr => ap q hq r ?_, fun x v hx => ?_, rf⟩
  · simp only [List.mem_append] at hq ⊢
    rcases hq with hq | hq | hq
    · exact .inl hq
    · exact .inr (.inl (hs q hq))
    · exact .inr (.inr hq)
  · simp only [List.mem_append] at hr ⊢
    rcases hr with hr | hr
    · exact .inl (hs r hr)
    · exact .inr hr
  · obtain ⟨v', e1, e2⟩ := lc x v hx
    exact ⟨v', e1, vr_scal (hρ x v hx) e2⟩
theorem ExcAt.thin {base : Heap} {l : List Env} {e : Addr} {kk : Nat} {s : RS} {ρ : Loc} {fz fz₀ : Led} {st : Shared} (h : ExcAt (lwT s₀ h₀ L P tl vs k) base l (loOf s) ρ fz kk e st) (hs : Sub fz₀ fz) (hρ : scalR ρ) : ExcAt (lwT s₀ h₀ L P tl vs k) base l (loOf s) ρ fz₀ kk e st := by
  obtain ⟨hp, tk, g, m, R, t, tx, rfl, F, up, ⟨⟨B, b1, b2, b3, b4⟩, tup⟩, rp, ap, lc, rf⟩ := h
  refine ⟨hp, tk, g, m, R, t, tx, rfl, F, up, ⟨⟨B, b1, fun q hq => b2 q ?_, b3, b4⟩, tup⟩, rep_scal rp, fun q hq r hr => ap q hq r ?_, fun x v hx => ?_, rf⟩
  · simp only [List.mem_append] at hq ⊢
    rcases hq with hq | hq | hq
    · exact .inl hq
    · exact .inr (.inl (hs q hq))
    · exact .inr (.inr hq)
  · simp only [List.mem_append] at hr ⊢
    rcases hr with hr | hr
    · exact .inl (hs r hr)
    · exact .inr hr
  · obtain ⟨v', e1, e2⟩ := lc x v hx
    exact ⟨v', e1, vr_scal (hρ x v hx) e2⟩
end
theorem tok_scal {T M W : List Nat} {posix : Bool} {s s' : RS} {d : V} (h : readTok T M W posix s = some (.tok d s')) : scal d = true := by
  rcases readTok_raw h with rfl | ⟨x, rfl⟩ <;> rfl
section
variable {prog : Program} {w : World} {Pm : Params} {p : Program} {loose : List Str} {mean : ExcName → Option Value} {mg mb : Str → Option Value} {A₀ : Around} {base : Heap} {outer : List Env} {A : Around} {env : Env} {s₀ : Shared} {h₀ : Heap} {L tl : Addr} {P : LP} {vs : List Value} {k : Nat}
theorem gt_expr {d : Nat} (R : Rim (K02 Pm) p loose mean mg mb A₀ base outer A env h₀ L (d + 6)) (hT : P.T.length ≤ 100) (hM : P.M.length ≤ 100) (hM1 : P.M ≠ []) (kl : env.kindOf "lexer" = some .local) {s : RS} (hs : LTop P.T s) {x : TokR} (hx : readTok P.T P.M P.W P.posix s = some x)
    {ρ : Loc} {fz : Led} {st : Shared} (hρ : scalR ρ) (h : At (lwT s₀ h₀ L P tl vs k) (loOf s) ρ fz st) {p1 p2 p3 : Pos} (hl : (p2.endLine == p3.line) = true) {Q E : Value → Shared → Prop}
    (hq : ∀ st' v d s', x = .tok d s' → At (lwT s₀ h₀ L P tl vs k) (loOf s') ρ fz st' → VR fz d v → Q v st')
    (hexc : ∀ st' e kk s', x = .exc kk s' → ExcAt (lwT s₀ h₀ L P tl vs k) base (env :: outer) (loOf s') ρ fz kk e st' → E (.ref e) st') :
    wpAny (model prog w) A (eval (.Call (.Attribute (.Name (ofString "lexer") p1) (ofString "get_token") p2) [] [] p3) env) Q E st := by
  refine call_meth0 (C := lwT s₀ h₀ L P tl vs k) R h (f := 683) (fun Rl hr => lex_here hr) (.tail _ (.head _)) kl (by decide) hl (by rfl) (by kernel_rfl) (gettok_1 Pm) (by kernel_rfl) (fo := ⟨.type "function", none, .func (fnOf "get_token" "shlex.get_token" (fpar (meth 19 5)) (fbody (meth 19 5)) (fscope (meth 19 5)) .none .none .none (.str "cpy313.shlex" 1001) none (.ref 682) .none), #[]⟩) (by kernel_rfl) rfl ?_
  refine get_token_call (C := lwT s₀ h₀ L P tl vs k) rfl hT hM hM1 R hs hx h (fun fz' st' v d s' e sb h' hv => ?_) fun fz' st' e kk s' ex sb h' => ?_
  · exact hq st' v d s' e (h'.thin sb hρ) (vr_scal (tok_scal (e ▸ hx)) hv)
  · exact hexc st' e kk s' ex (h'.thin sb hρ)
end
noncomputable abbrev rowV (d : V) (s : RS) : V := .tuple [d, .int (s.ln : Int)]
def Tups (fz : Led) : Prop := ∀ q ∈ fz, q.2.cls = .type "tuple"
inductive LoopR (T M W : List Nat) (posix : Bool) : Nat → V → RS → List V → (List V × Option Nat × V × RS) → Prop
  | stop {n : Nat} {d : V} {s : RS} {told : List V} (hc : cmpV .NotEq d (eofV posix) = some (.bool false)) : LoopR T M W posix n d s told (told, none, d, s)
  | fault {n : Nat} {d : V} {s s' : RS} {told : List V} {k : Nat} (hc : cmpV .NotEq d (eofV posix) = some (.bool true)) (hr : readTok T M W posix s = some (.exc k s')) : LoopR T M W posix n d s told (told ++ [rowV d s], some k, d, s')
  | more {n : Nat} {d d' : V} {s s' : RS} {told : List V} {r : List V × Option Nat × V × RS} (hc : cmpV .NotEq d (eofV posix) = some (.bool true)) (hr : readTok T M W posix s = some (.tok d' s')) (hl : LoopR T M W posix n d' s' (told ++ [rowV d s]) r) : LoopR T M W posix (n + 1) d s told r
inductive LoopAt (s₀ : Shared) (h₀ : Heap) (L tl : Addr) (P : LP) (ρ : Loc) (res : List V × Option Nat × V × RS) (n : Nat) (st : Shared) : Prop
  | mk (dv : V) (s : RS) (told : List V) (vs : List Value) (k : Nat) (fz : Led) (hw : LoopR P.T P.M P.W P.posix n dv s told res) (hs : LTop P.T s) (hdv : scal dv = true) (hn : told.length + n ≤ 999) (ht : Tups fz) (hv : DatAll fz vs told) (h : At (lwT s₀ h₀ L P tl vs k) (loOf s) ((ofString "token", dv) :: ρ) fz st)
noncomputable abbrev whA (p1 p2 p3 p4 p5 p6 p7 p8 : Pos) : Stmt := Stmt.Expr (Expr.Call (Expr.Attribute (Expr.Name (ofString "told") p1) (ofString "append") p2) [Expr.Tuple [Expr.Name (ofString "token") p3, Expr.Attribute (Expr.Name (ofString "lexer") p4) (ofString "lineno") p5] 0 p6] [] p7) p8
section
variable {prog : Program} {w : World} {Pm : Params} {p : Program} {loose : List Str} {mean : ExcName → Option Value} {mg mb : Str → Option Value} {A₀ : Around} {base : Heap} {outer : List Env} {A : Around} {env : Env} {s₀ : Shared} {h₀ : Heap} {L tl : Addr} {P : LP} {vs : List Value} {k : Nat}
theorem ev_local {O : Type} {C : Cx O} {K : Frag} {d : Nat} (R : Rim K p loose mean mg mb A₀ base outer A env C.h₀ C.L d) {o : O} {ρ : Loc} {x : Str} {pos : Pos} {v : V} (hk : env.kindOf x = some .local) (hd : (x == ("__debug__" : Str)) = false) (hv : ρ.lookup x = some v) : EvOk prog w A C o env ρ (.Name x pos) v := by
  intro fz s Q E h hq
  obtain ⟨h', tk, m, Rl, rfl, F, N, rp, ap, lc, rf⟩ := id h
  obtain ⟨v', h1, h2⟩ := lc x v hv
  refine wpAny_Name (wpAny_loadName_local R.hk hk (by rw [R.hl]; exact F.ns) h1 ?_) hd
  exact hq fz _ v' (fun _ h => h) h h2
theorem ev_field {d : Nat} (R : Rim (K02 Pm) p loose mean mg mb A₀ base outer A env h₀ L d) (kl : env.kindOf "lexer" = some .local) {o : LO} {ρ : Loc} {a : Str} {p1 p2 : Pos} {v : V} (hl : (lexFields P o).lookup a = some (.v v)) :
    EvOk prog w A (lwT s₀ h₀ L P tl vs k) o env ρ (.Attribute (.Name (ofString "lexer") p1) a p2) v := by
  intro fz s Q E h hq
  refine Attribute_name (name_ref (C := lwT s₀ h₀ L P tl vs k) R h (.tail _ (.head _)) kl (by decide) ?_)
  exact get_field (C := lwT s₀ h₀ L P tl vs k) R h (fun Rl hr => lex_here hr) hl (lex_get1 Pm) (lex_get2 Pm) (lex_find Pm hl) fun v' s' h' x => hq fz s' v' (fun _ h => h) h' x
theorem wh_append {d : Nat} (R : Rim (K02 Pm) p loose mean mg mb A₀ base outer A env h₀ L d) (kl : env.kindOf "lexer" = some .local) (kt : env.kindOf "told" = some .local) (ko : env.kindOf "token" = some .local) {s : RS} {ρ : Loc} {fz : Led} {st : Shared} {dv : V} (hρ : scalR ρ) (hd : ρ.lookup (ofString "token") = some dv)
    (ht : Tups fz) (hz : vs.length ≤ 1000) (h : At (lwT s₀ h₀ L P tl vs k) (loOf s) ρ fz st) {p1 p2 p3 p4 p5 p6 p7 p8 : Pos} (hl : (p2.endLine == p7.line) = true) {Q : Flow → Shared → Prop} {E : Value → Shared → Prop}
    (hq : ∀ st' fz' v, Sub fz fz' → Tups fz' → VR fz' (rowV dv s) v → At (lwT s₀ h₀ L P tl (vs ++ [v]) (k + 1)) (loOf s) ρ fz' st' → Q .next st') :
    wpAny (model prog w) A (exec (whA p1 p2 p3 p4 p5 p6 p7 p8) env) Q E st := by
  refine wpAny_Expr ?_ R.hi rfl
  refine MethodCall_ (pl := _) ?_ (meth_eq (v := .Name (ofString "told") p1) (by rfl) (by rfl) (by simp) hl)
  refine name_ref (C := lwT s₀ h₀ L P tl vs k) R h (.head _) kt (by decide) ?_
  have hob : st.heap.get? tl = some (listOf vs.toArray k) := by
    obtain ⟨hp, tk, m, Rl, rfl, F, N, rp, ap, lc, rf⟩ := id h
    exact (N (tl, listOf vs.toArray k) (List.mem_append_right _ (List.mem_append_right _ (.head _)))).1
  refine getMethod_list_append hob rfl rfl ?_
  have he : EvOk prog w A (lwT s₀ h₀ L P tl vs k) (loOf s) env ρ (Expr.Tuple [Expr.Name (ofString "token") p3, Expr.Attribute (Expr.Name (ofString "lexer") p4) (ofString "lineno") p5] 0 p6) (rowV dv s) :=
    ev_tuple (evs_cons rfl (ev_local (C := lwT s₀ h₀ L P tl vs k) R ko (by decide) hd) (evs_cons rfl (ev_field R kl (by rfl)) evs_nil)) (by simp)
  refine callWith_more (first := [.ref tl]) (by rfl) (args_cons (he fz st _ E h fun fz₁ s₁ v s1 h1 x1 => ?_) rfl)
  refine args_nil ?_
  cases x1 with
  | @tuple a us n _ hm hds =>
    have h2 := h1.thin (fz₀ := (a, ({ cls := .type "tuple", data := .seq us.toArray n } : Obj)) :: fz) (fun q hq => by
      rcases List.mem_cons.mp hq with rfl | hq
      · exact hm
      · exact s1 q hq) hρ
    have ht2 : Tups ((a, ({ cls := .type "tuple", data := .seq us.toArray n } : Obj)) :: fz) := fun q hq => by
      rcases List.mem_cons.mp hq with rfl | hq
      · rfl
      · exact ht q hq
    obtain ⟨hp, tk, m, Rl, rfl, F, N, rp, ap, lc, rf⟩ := h2
    have hpre : ∀ q ∈ Rl ++ ((a, ({ cls := .type "tuple", data := .seq us.toArray n } : Obj)) :: fz), q.1 ≠ tl := fun q hq e => by
      rcases List.mem_append.mp hq with hq | hq
      · exact ap q hq (tl, listOf vs.toArray k) (List.mem_append_right _ (.head _)) e
      · have g1 := (N q (List.mem_append_right _ (List.mem_append_left _ hq))).1
        have g2 := (N (tl, listOf vs.toArray k) (List.mem_append_right _ (List.mem_append_right _ (.head _)))).1
        rw [e] at g1
        have g2 : hp.get? tl = some (listOf vs.toArray k) := g2
        rw [g2] at g1
        have := ht2 q hq
        rw [← Option.some.inj g1] at this
        have this : Value.type "list" = Value.type "tuple" := this
        exact absurd this (by decide)
    refine append_K (s := { s₀ with heap := hp, toks := tk }) (its := vs.toArray) (n := k) (D := tl) (news := Rl ++ (((a, ({ cls := .type "tuple", data := .seq us.toArray n } : Obj)) :: fz) ++ [(tl, listOf vs.toArray k)]))
      (news' := (Rl ++ ((a, ({ cls := .type "tuple", data := .seq us.toArray n } : Obj)) :: fz)) ++ [(tl, listOf (vs.toArray.push (.ref a)) (k + 1))]) F N (by rw [← List.append_assoc]; exact upd_mk (fun q hq => by cases hq) hpre) (fun h' F' N' => ?_) (by rw [List.size_toArray, sizeLine_eq]; lia)
    have e : vs.toArray.push (.ref a) = (vs ++ [Value.ref a]).toArray := by simp
    rw [e] at N'
    refine hq _ ((a, ({ cls := .type "tuple", data := .seq us.toArray n } : Obj)) :: fz) (.ref a) (fun q hq => .tail _ hq) ht2 ?_ ⟨h', tk, m, Rl, rfl, F', (by rw [List.append_assoc] at N'; exact N'), rp, fun q hq r hr => ?_, lc, rf⟩
    · refine .tuple (.head _) ?_
      cases hds with
      | cons y1 hds =>
        cases hds with
        | cons y2 hds =>
          cases hds
          cases y2
          exact .cons (vr_scal (hρ _ _ hd) y1) (.cons (.int _ _) .nil)
    · simp only [List.mem_append] at hr
      rcases hr with hr | hr
      · exact ap q hq r (List.mem_append_left _ hr)
      · have hr : r ∈ [(tl, listOf (vs ++ [Value.ref a]).toArray (k + 1))] := hr
        simp only [List.mem_singleton] at hr
        subst hr
        exact ap q hq (tl, listOf vs.toArray k) (List.mem_append_right _ (.head _))
noncomputable abbrev whT (p1 p2 p3 : Pos) : PySem.Expr := Expr.Compare (Expr.Name (ofString "token") p1) [CmpOp.NotEq] [Expr.Name (ofString "end") p2] p3
noncomputable abbrev whG (p1 p2 p3 p4 p5 : Pos) : Stmt := Stmt.Assign [Expr.Name (ofString "token") p1] (Expr.Call (Expr.Attribute (Expr.Name (ofString "lexer") p2) (ofString "get_token") p3) [] [] p4) p5
theorem gt_assign {d : Nat} (R : Rim (K02 Pm) p loose mean mg mb A₀ base outer A env h₀ L (d + 6)) (hT : P.T.length ≤ 100) (hM : P.M.length ≤ 100) (hM1 : P.M ≠ []) (kl : env.kindOf "lexer" = some .local) (ko : env.kindOf "token" = some .local) {s : RS} (hs : LTop P.T s) {x : TokR} (hx : readTok P.T P.M P.W P.posix s = some x)
    {ρ : Loc} {fz : Led} {st : Shared} (hρ : scalR ρ) (h : At (lwT s₀ h₀ L P tl vs k) (loOf s) ρ fz st) {p1 p2 p3 p4 p5 : Pos} (hl : (p3.endLine == p4.line) = true) {Q : Flow → Shared → Prop} {E : Value → Shared → Prop}
    (hq : ∀ st' d s', x = .tok d s' → At (lwT s₀ h₀ L P tl vs k) (loOf s') ((ofString "token", d) :: ρ) fz st' → Q .next st')
    (hexc : ∀ st' e kk s', x = .exc kk s' → ExcAt (lwT s₀ h₀ L P tl vs k) base (env :: outer) (loOf s') ρ fz kk e st' → E (.ref e) st') :
    wpAny (model prog w) A (exec (whG p1 p2 p3 p4 p5) env) Q E st := by
  refine wpAny_Assign_Name (gt_expr R hT hM hM1 kl hs hx hρ h hl (fun st' v d s' e h' hv => ?_) hexc) (swap_off rfl)
  refine put_val (C := lwT s₀ h₀ L P tl vs k) R.hk R.hl h' ko hv (fun q hq => ?_) fun st₂ h2 => hq st₂ d s' e h2
  have hq : q ∈ [(ofString "told", Value.ref tl), (ofString "lexer", Value.ref P.lx)] := hq
  simp only [List.mem_cons, List.not_mem_nil, or_false] at hq
  rcases hq with rfl | rfl
  · exact (show (ofString "told") ≠ ofString "token" by decide)
  · exact (show (ofString "lexer") ≠ ofString "token" by decide)
theorem lookup_next {k y : Str} {u : V} {ρ : Loc} (h : (y == k) = false) : ((k, u) :: ρ).lookup y = ρ.lookup y := by
  rw [List.lookup_cons, h]
theorem wh_ok {d : Nat} (R : Rim (K02 Pm) p loose mean mg mb A₀ base outer A env h₀ L (d + 6)) (hT : P.T.length ≤ 100) (hM : P.M.length ≤ 100) (hM1 : P.M ≠ []) (kl : env.kindOf "lexer" = some .local) (ko : env.kindOf "token" = some .local) (kt : env.kindOf "told" = some .local) (ke : env.kindOf "end" = some .local)
    {ρ : Loc} (hρ : scalR ρ) (hend : ρ.lookup (ofString "end") = some (eofV P.posix)) {n : Nat} {dv : V} {s : RS} {told : List V} {res : List V × Option Nat × V × RS} (hw : LoopR P.T P.M P.W P.posix n dv s told res) (hs : LTop P.T s) (hdv : scal dv = true) (hn : told.length + n ≤ 999)
    {fz : Led} {st : Shared} (ht : Tups fz) (hv : DatAll fz vs told) (h : At (lwT s₀ h₀ L P tl vs k) (loOf s) ((ofString "token", dv) :: ρ) fz st)
    {q1 q2 q3 q4 q5 q6 q7 q8 r1 r2 r3 u1 u2 u3 u4 u5 pw : Pos} (l1 : (q2.endLine == q7.line) = true) (l2 : (u3.endLine == u4.line) = true) {Q : Flow → Shared → Prop} {E : Value → Shared → Prop}
    (hq : ∀ st' vs' k' fz', res.2.1 = none → At (lwT s₀ h₀ L P tl vs' k') (loOf res.2.2.2) ((ofString "token", res.2.2.1) :: ρ) fz' st' → DatAll fz' vs' res.1 → Tups fz' → LTop P.T res.2.2.2 → Q .next st')
    (hexc : ∀ st' vs' k' fz' kk e, res.2.1 = some kk → ExcHeld (lwT s₀ h₀ L P tl vs' k') base (env :: outer) (loOf res.2.2.2) ((ofString "token", res.2.2.1) :: ρ) fz' kk e st' → DatAll fz' vs' res.1 → Tups fz' → E (.ref e) st') :
    wpAny (model prog w) A (exec (.While (whT r1 r2 r3) [whA q1 q2 q3 q4 q5 q6 q7 q8, whG u1 u2 u3 u4 u5] [] pw) env) Q E st := by
  refine wpAny_While (codeAny_whileLoop (LoopAt s₀ h₀ L tl P ρ res) ?_ n ⟨dv, s, told, vs, k, fz, hw, hs, hdv, hn, ht, hv, h⟩)
  rintro n st ⟨dv, s, told, vs, k, fz, hw, hs, hdv, hn, ht, hv, h⟩
  have htk : ((ofString "token", dv) :: ρ).lookup (ofString "token") = some dv := by rw [List.lookup_cons, beq_self_eq_true]
  have hen : ((ofString "token", dv) :: ρ).lookup (ofString "end") = some (eofV P.posix) := by rw [lookup_next (by decide)]; exact hend
  have tr : ∀ {b : Bool}, cmpV .NotEq dv (eofV P.posix) = some (.bool b) → TrOk prog w A (lwT s₀ h₀ L P tl vs k) (loOf s) env ((ofString "token", dv) :: ρ) (whT r1 r2 r3) b := fun hc =>
    tr_cmp (ev_local (C := lwT s₀ h₀ L P tl vs k) R ko (by decide) htk) (ev_local (C := lwT s₀ h₀ L P tl vs k) R ke (by decide) hen) rfl hc rfl
  have hlen : vs.length ≤ 1000 := by have := hv.length; lia
  have hρ' := scalR_cons (x := ofString "token") hρ hdv
  cases hw with
  | stop hc =>
    refine tr hc fz st _ _ h fun fz₂ st₂ s2 h2 => ?_
    simp only [Bool.false_eq_true, if_false]
    exact wpAny_execs_nil (hq st₂ vs k fz rfl (h2.thin s2 hρ') hv ht hs)
  | fault hc hr =>
    refine tr hc fz st _ _ h fun fz₂ st₂ s2 h2 => ?_
    simp only [if_true]
    refine wpAny_execs_cons (wh_append R kl kt ko hρ' htk ht hlen (h2.thin s2 hρ') l1 fun st₃ fz₃ v s3 ht3 hv3 h3 => ?_)
    dsimp only
    refine wpAny_execs_cons (gt_assign R hT hM hM1 kl ko hs hr hρ' h3 l2 (fun _ _ _ e _ => by cases e) fun st₄ e kk s' ee h4 => ?_)
    cases ee
    refine note_exc (C := lwT s₀ h₀ L P tl (vs ++ [v]) (k + 1)) R.hA R.hf h4 fun st₅ h5 => ?_
    refine back_exc (C := lwT s₀ h₀ L P tl (vs ++ [v]) (k + 1)) R.hf h5 fun st₆ h6 => ?_
    exact hexc st₆ (vs ++ [v]) (k + 1) fz₃ _ e rfl h6 (datAll_app (hv.mono s3) (.cons hv3 .nil)) ht3
  | more hc hr hl =>
    refine tr hc fz st _ _ h fun fz₂ st₂ s2 h2 => ?_
    simp only [if_true]
    refine wpAny_execs_cons (wh_append R kl kt ko hρ' htk ht hlen (h2.thin s2 hρ') l1 fun st₃ fz₃ v s3 ht3 hv3 h3 => ?_)
    dsimp only
    refine wpAny_execs_cons (gt_assign R hT hM hM1 kl ko hs hr hρ' h3 l2 (fun st₄ d' s' e h4 => ?_) fun _ _ _ _ e _ => by cases e)
    cases e
    refine wpAny_execs_nil ?_
    refine ⟨_, Nat.lt_succ_self _, _, _, _, vs ++ [v], k + 1, fz₃, hl, readTok_top hs hr, tok_scal hr, ?_, ht3, datAll_app (hv.mono s3) (.cons hv3 .nil), h4.drop fun x y hy => ?_⟩
    · simp only [List.length_append, List.length_cons, List.length_nil]; lia
    · rw [List.lookup_cons] at hy ⊢
      split at hy
      · exact hy
      · rename_i e
        rw [lookup_next (by simpa using e)]; exact hy
end
inductive FinR (T M W : List Nat) (posix : Bool) : RS → (List V × Str × RS) → Prop
  | f1 {s s' : RS} {k : Nat} (hr : readTok T M W posix s = some (.exc k s')) : FinR T M W posix s ([], xtext k, s')
  | f2 {s s1 s' : RS} {d d' : V} {told : List V} {k n : Nat} (hr : readTok T M W posix s = some (.tok d s1)) (hl : LoopR T M W posix n d s1 [] (told, some k, d', s')) (hn : n ≤ 900) : FinR T M W posix s (told, xtext k, s')
  | f3 {s s1 s' s2 : RS} {d d' d2 : V} {told : List V} {n : Nat} (hr : readTok T M W posix s = some (.tok d s1)) (hl : LoopR T M W posix n d s1 [] (told, none, d', s')) (hn : n ≤ 900) (hr2 : readTok T M W posix s' = some (.tok d2 s2)) (hc : cmpV .NotEq d2 (eofV posix) = some (.bool false)) : FinR T M W posix s (told, ofString "", s2)
theorem loopR_scal {T M W : List Nat} {posix : Bool} {n : Nat} {d : V} {s : RS} {told : List V} {r : List V × Option Nat × V × RS} (h : LoopR T M W posix n d s told r) (hd : scal d = true) : scal r.2.2.1 = true := by
  induction h with
  | stop _ => exact hd
  | fault _ _ => exact hd
  | more _ hr _ ih => exact ih (tok_scal hr)
noncomputable abbrev tryB (q1 q2 q3 q4 q5 q6 q7 q8 r1 r2 r3 u1 u2 u3 u4 u5 v1 v2 v3 v4 v5 w1 w2 w3 w4 w5 x1 x2 x3 pw : Pos) : List Stmt :=
  [whG v1 v2 v3 v4 v5, .While (whT r1 r2 r3) [whA q1 q2 q3 q4 q5 q6 q7 q8, whG u1 u2 u3 u4 u5] [] pw,
   Stmt.If (Expr.Compare (Expr.Call (Expr.Attribute (Expr.Name (ofString "lexer") w1) (ofString "get_token") w2) [] [] w3) [CmpOp.NotEq] [Expr.Name (ofString "end") w4] w5) [Stmt.Return (some (Expr.Constant (Const.bool false) 0 x1)) x2] [] x3]
section
variable {prog : Program} {w : World} {Pm : Params} {p : Program} {loose : List Str} {mean : ExcName → Option Value} {mg mb : Str → Option Value} {A₀ : Around} {base : Heap} {outer : List Env} {A : Around} {env : Env} {s₀ : Shared} {h₀ : Heap} {L tl : Addr} {P : LP} {k₀ : Nat}
theorem try_ok {d : Nat} (R : Rim (K02 Pm) p loose mean mg mb A₀ base outer A env h₀ L (d + 6)) (hb : h₀ = base) (hu : A.units + 2 < cLine) (hT : P.T.length ≤ 100) (hM : P.M.length ≤ 100) (hM1 : P.M ≠ []) (kl : env.kindOf "lexer" = some .local) (ko : env.kindOf "token" = some .local) (kt : env.kindOf "told" = some .local) (ke : env.kindOf "end" = some .local)
    (k1 : env.kindOf "ValueError" = some .globalImplicit) (k2 : env.kindOf "str" = some .globalImplicit) (k3 : env.kindOf "fault" = some .local) (k4 : env.kindOf "words" = some .local)
    {ρ : Loc} (hρ : scalR ρ) (hend : ρ.lookup (ofString "end") = some (eofV P.posix)) (hf : ρ.lookup (ofString "fault") = none) (htok : ρ.lookup (ofString "token") = none) {s : RS} (hs : LTop P.T s) {res : List V × Str × RS} (hw : FinR P.T P.M P.W P.posix s res)
    {st : Shared} (h : At (lwT s₀ h₀ L P tl [] k₀) (loOf s) ((ofString "words", .str (ofString "")) :: ρ) [] st)
    {q1 q2 q3 q4 q5 q6 q7 q8 r1 r2 r3 u1 u2 u3 u4 u5 v1 v2 v3 v4 v5 w1 w2 w3 w4 w5 x1 x2 x3 pw p1 p2 p3 p4 p5 p6 p7 pt : Pos} (l1 : (q2.endLine == q7.line) = true) (l2 : (u3.endLine == u4.line) = true) (l3 : (v3.endLine == v4.line) = true) (l4 : (w2.endLine == w3.line) = true) {Q : Flow → Shared → Prop} {E : Value → Shared → Prop}
    (hq : ∀ st' vs k fz, At (lwT s₀ h₀ L P tl vs k) (loOf res.2.2) ((ofString "words", .str res.2.1) :: ρ) fz st' → DatAll fz vs res.1 → Q .next st') :
    wpAny (model prog w) A (exec (.Try (tryB q1 q2 q3 q4 q5 q6 q7 q8 r1 r2 r3 u1 u2 u3 u4 u5 v1 v2 v3 v4 v5 w1 w2 w3 w4 w5 x1 x2 x3 pw) [hdW p1 p2 p3 p4 p5 p6 p7] [] [] pt) env) Q E st := by
  have g1 : nsIn (K02 Pm) mainGlobals (ofString "ValueError") = some none := by kernel_rfl
  have g2 : nsIn (K02 Pm) mainGlobals (ofString "str") = some none := by kernel_rfl
  have hρw : scalR ((ofString "words", .str (ofString "")) :: ρ) := scalR_cons hρ rfl
  have hend' : ((ofString "words", Dat.str (ofString "")) :: ρ).lookup (ofString "end") = some (eofV P.posix) := by rw [lookup_next (by decide)]; exact hend
  have hr : ∀ vs k, ∀ q ∈ (lwT s₀ h₀ L P tl vs k).refs, q.1 ≠ ofString "fault" ∧ q.1 ≠ ofString "words" := fun vs k q hq => by
    have hq : q ∈ [(ofString "told", Value.ref tl), (ofString "lexer", Value.ref P.lx)] := hq
    simp only [List.mem_cons, List.not_mem_nil, or_false] at hq
    rcases hq with rfl | rfl
    · exact (show (ofString "told") ≠ ofString "fault" ∧ (ofString "told") ≠ ofString "words" by decide)
    · exact (show (ofString "lexer") ≠ ofString "fault" ∧ (ofString "lexer") ≠ ofString "words" by decide)
  have d1 : ∀ x v (a b : V), ((ofString "words", a) :: ρ).lookup x = some v → ((ofString "words", a) :: (ofString "words", b) :: ρ).lookup x = some v := fun x v a b hx => by
    rw [List.lookup_cons] at hx ⊢
    split at hx
    · exact hx
    · rename_i e
      rw [List.lookup_cons, e]; exact hx
  have d2 : ∀ x v (a b c : V), ((ofString "words", a) :: ρ).lookup x = some v → ((ofString "words", a) :: (ofString "token", c) :: (ofString "words", b) :: ρ).lookup x = some v := fun x v a b c hx => by
    rw [List.lookup_cons] at hx ⊢
    split at hx
    · exact hx
    · rename_i e
      rw [List.lookup_cons]
      split
      · rename_i e2
        have := eq_of_beq e2
        subst this; rw [htok] at hx; cases hx
      · rw [List.lookup_cons, e]; exact hx
  have d3 : ∀ x v (a c : V), ((ofString "words", a) :: ρ).lookup x = some v → ((ofString "token", c) :: (ofString "words", a) :: ρ).lookup x = some v := fun x v a c hx => by
    rw [List.lookup_cons]
    split
    · rename_i e2
      have := eq_of_beq e2
      subst this
      rw [lookup_next (by decide), htok] at hx; cases hx
    · exact hx
  have hf1 : ((ofString "words", Dat.str (ofString "")) :: ρ).lookup (ofString "fault") = none := by rw [lookup_next (by decide)]; exact hf
  have hf2 : ∀ c : V, ((ofString "token", c) :: (ofString "words", Dat.str (ofString "")) :: ρ).lookup (ofString "fault") = none := fun c => by rw [lookup_next (by decide)]; exact hf1
  refine wpAny_Try_except ?_
  cases hw with
  | f1 hr1 =>
    refine wpAny_execs_cons (gt_assign R hT hM hM1 kl ko hs hr1 hρw h l3 (fun _ _ _ e _ => by cases e) fun st₁ e kk s' ee h1 => ?_)
    cases ee
    refine note_exc (C := lwT s₀ h₀ L P tl [] k₀) R.hA R.hf h1 fun st₂ h2 => ?_
    exact caught (C := lwT s₀ h₀ L P tl [] k₀) R hb hu h2 g1 g2 k1 k2 k3 k4 hf1 (hr _ _) fun fz' st' sb h' => hq st' [] k₀ fz' (h'.drop fun x v hx => d1 x v _ _ hx) .nil
  | f2 hr1 hl hn =>
    refine wpAny_execs_cons (gt_assign R hT hM hM1 kl ko hs hr1 hρw h l3 (fun st₁ d1' s' e h1 => ?_) fun _ _ _ _ e _ => by cases e)
    cases e
    refine wpAny_execs_cons (wh_ok R hT hM hM1 kl ko kt ke hρw hend' hl (readTok_top hs hr1) (tok_scal hr1) (by simp only [List.length_nil]; lia) (fun q hq => by cases hq) .nil h1 l1 l2 (fun _ _ _ _ e => by cases e) fun st₂ vs' k' fz' kk e ee h2 hv2 ht2 => ?_)
    cases ee
    refine note_again (C := lwT s₀ h₀ L P tl vs' k') R.hf h2 ?_
    exact caught (C := lwT s₀ h₀ L P tl vs' k') R hb hu h2 g1 g2 k1 k2 k3 k4 (hf2 _) (hr _ _) fun fz'' st' sb h' => hq st' vs' k' fz'' (h'.drop fun x v hx => d2 x v _ _ _ hx) (hv2.mono sb)
  | f3 hr1 hl hn hr2 hc =>
    refine wpAny_execs_cons (gt_assign R hT hM hM1 kl ko hs hr1 hρw h l3 (fun st₁ d1' s' e h1 => ?_) fun _ _ _ _ e _ => by cases e)
    cases e
    refine wpAny_execs_cons (wh_ok R hT hM hM1 kl ko kt ke hρw hend' hl (readTok_top hs hr1) (tok_scal hr1) (by simp only [List.length_nil]; lia) (fun q hq => by cases hq) .nil h1 l1 l2 (fun st₂ vs' k' fz' _ h2 hv2 ht2 hs2 => ?_) fun _ _ _ _ _ _ e => by cases e)
    dsimp only at h2 hs2 ⊢
    have hsd := scalR_cons (x := ofString "token") hρw (loopR_scal hl (tok_scal hr1))
    refine wpAny_execs_cons (wpAny_If (wpAny_isTrue_Compare1 (gt_expr R hT hM hM1 kl hs2 hr2 hsd h2 l4 (fun st₃ v3 d3' s3 e h3 hv3 => ?_) fun _ _ _ _ e _ => by cases e) rfl))
    cases e
    refine (ev_local (C := lwT s₀ h₀ L P tl vs' k') R ke (by decide) (by rw [lookup_next (by decide)]; exact hend')) fz' st₃ _ _ h3 fun fz₄ st₄ v4 s4 h4 hv4 => ?_
    refine cmp_sound (hv3.mono s4) hv4 hc fun v5 tk5 x5 => truth_sound x5 rfl fun tk6 => ?_
    simp only [Bool.false_eq_true, if_false]
    refine wpAny_execs_nil ?_
    dsimp only
    refine wpAny_execs_nil ?_
    dsimp only
    refine wpAny_execs_nil ?_
    exact hq _ vs' k' fz₄ (((h4.toks tk5).toks tk6).drop fun x v hx => d3 x v _ _ hx) (hv2.mono s4)
end
section
variable {prog : Program} {w : World} {Pm : Params} {p : Program} {loose : List Str} {mean : ExcName → Option Value} {mg mb : Str → Option Value} {A₀ : Around} {base : Heap} {outer : List Env} {A : Around} {env : Env} {s₀ : Shared} {h₀ : Heap} {L tl : Addr} {P : LP}
theorem ev_pure {O : Type} {C : Cx O} {K : Frag} {d : Nat} (R : Rim K p loose mean mg mb A₀ base outer A env C.h₀ C.L d) {nm : Str} {f : List V → Option (Bool × V)} (hp : PureC prog w K p loose mean mg mb nm d f) (hk : env.kindOf nm = some .globalImplicit) {o : O} {ρ : Loc} {args : List PySem.Expr} {ds : List V} {r : V} {p1 p2 : Pos}
    (ha : EvsOk prog w A C o env ρ args ds) (hs : args.all notStar = true) (hn : args ≠ []) (hf : f ds = some (true, r)) : EvOk prog w A C o env ρ (.Call (.Name nm p1) args [] p2) r := by
  intro fz s Q E h hq
  refine hp R h hk args p2 p1 ds r hf hs hn Q E (ha p2 fz s _ E h fun fz₁ s₁ vs s1 h1 x1 => ⟨fz₁, s1, h1, x1, fun fz' s' v' s2 h2 x2 => hq fz' s' v' (fun q hq => s2 q (s1 q hq)) h2 x2⟩)
theorem eq_like {O : Type} {C : Cx O} {o : O} {ρ : Loc} {fz : Led} {s : Shared} (h : At C o ρ fz s) {a b : Value} {x : V} {n : Nat} (hn : n ≤ 9) (ha : VR fz x a) (hb : VR fz x b) (hk : kqdOk n x = true) (hu : A.units + 64 < cLine) {Q E : Value → Shared → Prop} (hq : Q (.bool true) s) :
    wpAny (model prog w) A (compareOp .Eq a b) Q E s := by
  obtain ⟨hp, tk, m, R, rfl, F, N, rp, ap, lc, rf⟩ := h
  have N' : News C.h₀ C.L hp fz := fun q hq => N q (List.mem_append_right _ (List.mem_append_left _ hq))
  obtain ⟨as, ra⟩ := kqd_in N' n ha hk
  obtain ⟨bs, rb⟩ := kqd_in N' n hb hk
  have la := kqd_lay n x hk
  have e : PyData.eqv (kqdP x) (kqdP x) = true := (kqd_eqv n x x n hk hk).mpr rfl
  refine eq_dataH (s := { C.s₀ with heap := hp, toks := tk }) ra rb ?_ ?_ hu (by rw [e]; exact hq)
  · unfold SeqAt.shaped; rw [la.1, Bool.true_and]; exact decide_eq_true (Nat.le_trans la.2 (Nat.le_trans hn (by decide)))
  · unfold SeqAt.shaped; rw [la.1, Bool.true_and]; exact decide_eq_true (Nat.le_trans la.2 (Nat.le_trans hn (by decide)))
theorem told_give {vs : List Value} {k : Nat} {told : List V} {o : LO} {ρ : Loc} {fz : Led} {st : Shared} (h : At (lwT s₀ h₀ L P tl vs k) o ρ fz st) (hv : DatAll fz vs told) :
    At ({ lwT s₀ h₀ L P tl vs k with rest := [], refs := [(ofString "lexer", .ref P.lx)] } : Cx LO) o ((ofString "told", .list told) :: ρ) ((tl, listOf vs.toArray k) :: fz) st := by
  obtain ⟨hp, tk, m, R, rfl, F, N, rp, ap, lc, rf⟩ := h
  refine ⟨hp, tk, m, R, rfl, F, fun q hq => ?_, lexRep_mono P _ _ _ _ (fun q hq => .tail _ hq) rp, fun q hq r hr => ?_, fun x v hx => ?_, fun q hq => rf q (.tail _ hq)⟩
  · have hq : q ∈ R ++ (((tl, listOf vs.toArray k) :: fz) ++ []) := hq
    simp only [List.append_nil, List.mem_append, List.mem_cons] at hq
    rcases hq with hq | rfl | hq
    · exact N q (List.mem_append_left _ hq)
    · exact N _ (List.mem_append_right _ (List.mem_append_right _ (.head _)))
    · exact N q (List.mem_append_right _ (List.mem_append_left _ hq))
  · have hr : r ∈ ((tl, listOf vs.toArray k) :: fz) ++ [] := hr
    simp only [List.append_nil, List.mem_cons] at hr
    rcases hr with rfl | hr
    · exact ap q hq _ (List.mem_append_right _ (.head _))
    · exact ap q hq r (List.mem_append_left _ hr)
  · rw [List.lookup_cons] at hx
    split at hx
    · rename_i e
      cases hx
      have := eq_of_beq e
      subst this
      exact ⟨.ref tl, rf (ofString "told", .ref tl) (.head _), .list (.head _) (hv.mono fun q hq => .tail _ hq)⟩
    · obtain ⟨v', e1, e2⟩ := lc x v hx
      exact ⟨v', e1, e2.mono fun q hq => .tail _ hq⟩
noncomputable abbrev retE (a1 a2 a3 a4 a5 a6 a7 a8 a9 b1 b2 b3 b4 b5 b6 b7 : Pos) : PySem.Expr :=
  Expr.Compare (Expr.Tuple [Expr.Name (ofString "told") a1, Expr.Tuple [Expr.Name (ofString "words") a2, Expr.Attribute (Expr.Name (ofString "lexer") a3) (ofString "state") a4, Expr.Attribute (Expr.Name (ofString "lexer") a5) (ofString "token") a6, Expr.Attribute (Expr.Name (ofString "lexer") a7) (ofString "lineno") a8] 0 a9] 0 b1)
    [CmpOp.Eq] [Expr.Call (Expr.Name (ofString "_law_tell") b2) [Expr.Name (ofString "text") b3, Expr.Name (ofString "posix") b4, Expr.Name (ofString "marks") b5] [] b6] b7
noncomputable def foundV (r : List V × Str × RS) : V := .tuple [.list r.1, .tuple [.str r.2.1, stV r.2.2.st, .str (S r.2.2.tok), .int (r.2.2.ln : Int)]]
theorem ret_ok {d : Nat} (R : Rim (K02 Pm) p loose mean mg mb A₀ base outer A env h₀ L (d + 2)) (hu : A.units + 64 < cLine) (kl : env.kindOf "lexer" = some .local) (kt : env.kindOf "told" = some .local) (kw : env.kindOf "words" = some .local) (kx : env.kindOf "text" = some .local) (kp : env.kindOf "posix" = some .local) (km : env.kindOf "marks" = some .local) (kf : env.kindOf "_law_tell" = some .globalImplicit)
    {vs : List Value} {k : Nat} {r : List V × Str × RS} {ρ : Loc} {fz : Led} {st : Shared} {T M : List Nat} {posix : Bool} (h : At (lwT s₀ h₀ L P tl vs k) (loOf r.2.2) ((ofString "words", .str r.2.1) :: ρ) fz st) (hv : DatAll fz vs r.1)
    (h1 : ρ.lookup (ofString "text") = some (.str (S T))) (h2 : ρ.lookup (ofString "posix") = some (.bool posix)) (h3 : ρ.lookup (ofString "marks") = some (.str (S M))) (hT : T.length ≤ 100)
    (heq : foundV r = tellV (tellOf T M posix)) (hk : kqdOk 5 (foundV r) = true) {a1 a2 a3 a4 a5 a6 a7 a8 a9 b1 b2 b3 b4 b5 b6 b7 c1 : Pos} {Q : Flow → Shared → Prop} {E : Value → Shared → Prop}
    (hq : ∀ st', (∃ m news, Fr h₀ L st'.heap m ∧ News h₀ L st'.heap news) → (∃ hp tk, st' = { s₀ with heap := hp, toks := tk }) → Q (.ret (.bool true)) st') :
    wpAny (model prog w) A (exec (.Return (some (retE a1 a2 a3 a4 a5 a6 a7 a8 a9 b1 b2 b3 b4 b5 b6 b7)) c1) env) Q E st := by
  have h4 := told_give h hv
  generalize hC : ({ lwT s₀ h₀ L P tl vs k with rest := [], refs := [(ofString "lexer", .ref P.lx)] } : Cx LO) = C at h4
  have eh : C.h₀ = h₀ := by rw [← hC]; rfl
  have eL : C.L = L := by rw [← hC]; rfl
  have es : C.s₀ = s₀ := by rw [← hC]; rfl
  have er : C.refs = [(ofString "lexer", .ref P.lx)] := by rw [← hC]
  have eR : C.Rep = lexRep P := by rw [← hC]; rfl
  have R' : Rim (K02 Pm) p loose mean mg mb A₀ base outer A env C.h₀ C.L (d + 2) := by rw [eh, eL]; exact R
  have fld : ∀ {a : Str} {p1 p2 : Pos} {v : V}, (lexFields P (loOf r.2.2)).lookup a = some (.v v) → EvOk prog w A C (loOf r.2.2) env ((ofString "told", .list r.1) :: (ofString "words", .str r.2.1) :: ρ) (.Attribute (.Name (ofString "lexer") p1) a p2) v := fun {a p1 p2 v} hl fz s Q E h hq => by
    refine Attribute_name (name_ref R' h (by rw [er]; exact .head _) kl (by decide) ?_)
    exact get_field R' h (fun Rl hr => lex_here (eR ▸ hr)) hl (lex_get1 Pm) (lex_get2 Pm) (lex_find Pm hl) fun v' s' h' x => hq fz s' v' (fun _ h => h) h' x
  have lk : ∀ {x : Str} {v : V}, (x == ofString "told") = false → (x == ofString "words") = false → ρ.lookup x = some v → ((ofString "told", Dat.list r.1) :: (ofString "words", Dat.str r.2.1) :: ρ).lookup x = some v := fun e1 e2 e3 => by
    rw [lookup_next e1, lookup_next e2]; exact e3
  have hl : EvOk prog w A C (loOf r.2.2) env ((ofString "told", .list r.1) :: (ofString "words", .str r.2.1) :: ρ) (Expr.Tuple [Expr.Name (ofString "told") a1, Expr.Tuple [Expr.Name (ofString "words") a2, Expr.Attribute (Expr.Name (ofString "lexer") a3) (ofString "state") a4, Expr.Attribute (Expr.Name (ofString "lexer") a5) (ofString "token") a6, Expr.Attribute (Expr.Name (ofString "lexer") a7) (ofString "lineno") a8] 0 a9] 0 b1) (foundV r) :=
    ev_tuple (evs_cons rfl (ev_local R' kt (by decide) (by rw [List.lookup_cons, beq_self_eq_true])) (evs_cons rfl (ev_tuple (evs_cons rfl (ev_local R' kw (by decide) (by rw [lookup_next (by decide), List.lookup_cons, beq_self_eq_true])) (evs_cons rfl (fld (by rfl)) (evs_cons rfl (fld (by rfl)) (evs_cons rfl (fld (by rfl)) evs_nil)))) (by simp)) evs_nil)) (by simp)
  have hr : EvOk prog w A C (loOf r.2.2) env ((ofString "told", .list r.1) :: (ofString "words", .str r.2.1) :: ρ) (Expr.Call (Expr.Name (ofString "_law_tell") b2) [Expr.Name (ofString "text") b3, Expr.Name (ofString "posix") b4, Expr.Name (ofString "marks") b5] [] b6) (foundV r) := by
    refine ev_pure R' (tell_pure d) kf (ds := [.str (S T), .bool posix, .str (S M)]) (evs_cons rfl (ev_local R' kx (by decide) (lk (by decide) (by decide) h1)) (evs_cons rfl (ev_local R' kp (by decide) (lk (by decide) (by decide) h2)) (evs_cons rfl (ev_local R' km (by decide) (lk (by decide) (by decide) h3)) evs_nil))) rfl (by simp) ?_
    show (some (Nat.ble (S T).length 100, tellV (tellOf T M posix)) : Option (Bool × V)) = some (true, foundV r)
    have e1 : Nat.ble (S T).length 100 = true := Nat.ble_eq_true_of_le (by rw [len_S]; exact hT)
    rw [e1, heq]
  refine wpAny_Return_some (wpAny_Compare1 (hl _ _ _ _ h4 fun fz₁ s₁ v1 s1 h5 x1 => hr fz₁ s₁ _ _ h5 fun fz₂ s₂ v2 s2 h6 x2 => ?_) rfl)
  refine eq_like h6 (n := 5) (by decide) (x1.mono s2) x2 hk hu ?_
  have h7 := h6.now'
  rw [eh, eL] at h7
  obtain ⟨hp, tk, m, Rl, e, _⟩ := h6
  exact hq _ h7 ⟨hp, tk, by rw [e, es]⟩
end
noncomputable abbrev lw8 : Stmt := Stmt.Assign [Expr.Tuple [Expr.Name (ofString "lexer") ⟨799, 4, 799, 9⟩, Expr.Name (ofString "told") ⟨799, 11, 799, 15⟩, Expr.Name (ofString "words") ⟨799, 17, 799, 22⟩] 0 ⟨799, 4, 799, 22⟩] (Expr.Tuple [Expr.Call (Expr.Name (ofString "shlex") ⟨799, 26, 799, 31⟩) [Expr.Name (ofString "text") ⟨799, 32, 799, 36⟩, Expr.Constant Const.none 0 ⟨799, 38, 799, 42⟩, Expr.Name (ofString "posix") ⟨799, 44, 799, 49⟩, Expr.Name (ofString "marks") ⟨799, 51, 799, 56⟩] [] ⟨799, 26, 799, 57⟩, Expr.List [] ⟨799, 59, 799, 61⟩, Expr.Constant (Const.str (ofString "")) 0 ⟨799, 63, 799, 65⟩] 0 ⟨799, 25, 799, 66⟩) ⟨799, 4, 799, 66⟩
noncomputable abbrev lw9 : Stmt := Stmt.Try [Stmt.Assign [Expr.Name (ofString "token") ⟨801, 8, 801, 13⟩] (Expr.Call (Expr.Attribute (Expr.Name (ofString "lexer") ⟨801, 16, 801, 21⟩) (ofString "get_token") ⟨801, 16, 801, 31⟩) [] [] ⟨801, 16, 801, 33⟩) ⟨801, 8, 801, 33⟩, Stmt.While (Expr.Compare (Expr.Name (ofString "token") ⟨802, 14, 802, 19⟩) [CmpOp.NotEq] [Expr.Name (ofString "end") ⟨802, 23, 802, 26⟩] ⟨802, 14, 802, 26⟩) [Stmt.Expr (Expr.Call (Expr.Attribute (Expr.Name (ofString "told") ⟨803, 12, 803, 16⟩) (ofString "append") ⟨803, 12, 803, 23⟩) [Expr.Tuple [Expr.Name (ofString "token") ⟨803, 25, 803, 30⟩, Expr.Attribute (Expr.Name (ofString "lexer") ⟨803, 32, 803, 37⟩) (ofString "lineno") ⟨803, 32, 803, 44⟩] 0 ⟨803, 24, 803, 45⟩] [] ⟨803, 12, 803, 46⟩) ⟨803, 12, 803, 46⟩, Stmt.Assign [Expr.Name (ofString "token") ⟨804, 12, 804, 17⟩] (Expr.Call (Expr.Attribute (Expr.Name (ofString "lexer") ⟨804, 20, 804, 25⟩) (ofString "get_token") ⟨804, 20, 804, 35⟩) [] [] ⟨804, 20, 804, 37⟩) ⟨804, 12, 804, 37⟩] [] ⟨802, 8, 804, 37⟩, Stmt.If (Expr.Compare (Expr.Call (Expr.Attribute (Expr.Name (ofString "lexer") ⟨805, 11, 805, 16⟩) (ofString "get_token") ⟨805, 11, 805, 26⟩) [] [] ⟨805, 11, 805, 28⟩) [CmpOp.NotEq] [Expr.Name (ofString "end") ⟨805, 32, 805, 35⟩] ⟨805, 11, 805, 35⟩) [Stmt.Return (some (Expr.Constant (Const.bool false) 0 ⟨806, 19, 806, 24⟩)) ⟨806, 12, 806, 24⟩] [] ⟨805, 8, 806, 24⟩] [ExceptHandler.ExceptHandler (some (Expr.Name (ofString "ValueError") ⟨807, 11, 807, 21⟩)) (some (ofString "fault")) [Stmt.Assign [Expr.Name (ofString "words") ⟨808, 8, 808, 13⟩] (Expr.Call (Expr.Name (ofString "str") ⟨808, 16, 808, 19⟩) [Expr.Name (ofString "fault") ⟨808, 20, 808, 25⟩] [] ⟨808, 16, 808, 26⟩) ⟨808, 8, 808, 26⟩] ⟨807, 4, 808, 26⟩] [] [] ⟨800, 4, 808, 26⟩
noncomputable abbrev lw10 : Stmt := Stmt.Return (some (Expr.Compare (Expr.Tuple [Expr.Name (ofString "told") ⟨809, 12, 809, 16⟩, Expr.Tuple [Expr.Name (ofString "words") ⟨809, 19, 809, 24⟩, Expr.Attribute (Expr.Name (ofString "lexer") ⟨809, 26, 809, 31⟩) (ofString "state") ⟨809, 26, 809, 37⟩, Expr.Attribute (Expr.Name (ofString "lexer") ⟨809, 39, 809, 44⟩) (ofString "token") ⟨809, 39, 809, 50⟩, Expr.Attribute (Expr.Name (ofString "lexer") ⟨809, 52, 809, 57⟩) (ofString "lineno") ⟨809, 52, 809, 64⟩] 0 ⟨809, 18, 809, 65⟩] 0 ⟨809, 11, 809, 66⟩) [CmpOp.Eq] [Expr.Call (Expr.Name (ofString "_law_tell") ⟨809, 70, 809, 79⟩) [Expr.Name (ofString "text") ⟨809, 80, 809, 84⟩, Expr.Name (ofString "posix") ⟨809, 86, 809, 91⟩, Expr.Name (ofString "marks") ⟨809, 93, 809, 98⟩] [] ⟨809, 70, 809, 99⟩] ⟨809, 11, 809, 99⟩)) ⟨809, 4, 809, 99⟩
theorem lw_rest : lwB.drop 7 = [lw8, lw9, lw10] := by kernel_rfl
noncomputable abbrev lwC8 : PySem.Expr := (Expr.Tuple [Expr.Call (Expr.Name (ofString "shlex") ⟨799, 26, 799, 31⟩) [Expr.Name (ofString "text") ⟨799, 32, 799, 36⟩, Expr.Constant Const.none 0 ⟨799, 38, 799, 42⟩, Expr.Name (ofString "posix") ⟨799, 44, 799, 49⟩, Expr.Name (ofString "marks") ⟨799, 51, 799, 56⟩] [] ⟨799, 26, 799, 57⟩, Expr.List [] ⟨799, 59, 799, 61⟩, Expr.Constant (Const.str (ofString "")) 0 ⟨799, 63, 799, 65⟩] 0 ⟨799, 25, 799, 66⟩)
theorem lw8_swap (L fa : Addr) (cd : Value) : swapR [Expr.Name (ofString "lexer") ⟨799, 4, 799, 9⟩, Expr.Name (ofString "told") ⟨799, 11, 799, 15⟩, Expr.Name (ofString "words") ⟨799, 17, 799, 22⟩] 0 ⟨799, 4, 799, 22⟩ lwC8 (lwE L fa cd) = some (some [ofString "lexer", ofString "told", ofString "words"]) := by kernel_rfl
noncomputable def rs0 : RS := { st := 32, tok := [], ln := 1, pos := 0, pb := [], quoted := false, esc := 32 }
theorem rs0_lo : loOf rs0 = lo0 := by kernel_rfl
theorem rs0_top (T : List Nat) : LTop T rs0 := ⟨.inr rfl, Nat.zero_le _, by simp [rs0], fun h => absurd rfl h, by simp [rs0], rfl⟩
theorem marks_ne (ns : List Int) : marksL ns ≠ [] := by
  unfold marksL; split
  · simp
  · assumption
theorem flat_len {α : Type} : ∀ (l : List α) (f : α → List Nat), (∀ x ∈ l, (f x).length ≤ 1) → ((l.map f).flatten).length ≤ l.length
  | [], _, _ => by simp
  | x :: r, f, h => by
    rw [List.map_cons, List.flatten_cons, List.length_append, List.length_cons]
    have := h x (.head _)
    have := flat_len r f fun y hy => h y (.tail _ hy)
    lia
theorem marks_len (ns : List Int) : (marksL ns).length ≤ 100 := by
  unfold marksL; split
  · decide
  · have h1 : (ownL ns).length ≤ (belL ns).length := flat_len _ _ fun _ _ => signL_le _
    have h2 : (belL ns).length ≤ 5 := by unfold belL; rw [List.length_take]; lia
    lia
theorem numsL_len (ns : List Int) : (numsL ns).length ≤ 60 := by
  unfold numsL; split
  · decide
  · rw [List.length_take]; lia
theorem text_len {ns : List Int} (h : ns.length ≤ 60) : (textL ns).length ≤ 100 := by
  have h1 : (textL ns).length ≤ ((List.range ns.length).filter fun k => !decide (k ∈ belL ns)).length := flat_len _ _ fun _ _ => signL_le _
  have h2 := List.length_filter_le (fun k => !decide (k ∈ belL ns)) (List.range ns.length)
  rw [List.length_range] at h2
  lia
def Plain (T M : List Nat) (posix : Bool) : Prop := ∃ res, FinR T M (wordsOf posix M) posix rs0 res ∧ foundV res = tellV (tellOf T M posix) ∧ kqdOk 5 (foundV res) = true
theorem lwRho_scal (ns : List Int) : scalR (lwRho ns) := by
  refine scalR_cons ?_ (by cases posixL ns <;> rfl)
  refine scalR_cons ?_ rfl
  refine scalR_cons ?_ rfl
  refine scalR_cons ?_ rfl
  refine scalR_cons ?_ rfl
  intro x v hx; cases hx
section
variable {prog : Program} {w : World} {A : Around} {O : Type} {C : Cx O} {o : O} {ρ : Loc} {fz : Led} {s : Shared} {env : Env}
theorem unpack3 (hh : A.handled = none) (h : At C o ρ fz s) {x y z : Str} {a b c : Value} {Q : Unit → Shared → Prop} {E : Value → Shared → Prop}
    (hq : ∀ fz' s', Sub fz fz' → At C o ρ fz' s' → wpAny (model prog w) A (assignInOrder [bindName env z, bindName env y, bindName env x] [c, b, a]) Q E s') :
    wpAny (model prog w) A (unpackItems (.ref s.heap.objs.size) [x, y, z].length none) (fun items s₂ => wpAny (model prog w) A (assignInOrder ([x, y, z].reverse.map fun n => bindName env n) items.reverse) Q E s₂) E { s with heap := s.heap.push { cls := .type "tuple", data := .seq [a, b, c].toArray } } := by
  have h4 := h.push { cls := .type "tuple", data := .seq [a, b, c].toArray }
  have ht : IsTup (s.heap.push { cls := .type "tuple", data := .seq [a, b, c].toArray }) s.heap.objs.size [a, b, c].toArray := tup_pushed h
  have e1 : [x, y, z].length = [a, b, c].toArray.size := rfl
  rw [e1]
  refine unpackItems_tuple (s := { s with heap := s.heap.push { cls := .type "tuple", data := .seq [a, b, c].toArray } }) hh ht fun h' he => ?_
  exact hq _ _ (fun q hq => .tail _ hq) (h4.ext2 he)
end
section
variable {prog : Program} {w : World} {Pm : Params} {p : Program} {loose : List Str} {mean : ExcName → Option Value} {mg mb : Str → Option Value} {A₀ : Around} {base : Heap} {outer : List Env} {A : Around} {L fa : Addr} {cd : Value} {s₀ : Shared} {h₀ : Heap}
theorem lw_tail {d : Nat} (R : Rim (KS Pm) p loose mean mg mb A₀ base outer A (lwE L fa cd) h₀ L (d + 6)) (hb : h₀ = base) (hu : A.units + 64 < cLine) {ns : List Int} (hn : ns.length ≤ 60) (hp : Plain (textL ns) (marksL ns) (posixL ns)) {st : Shared} (h : At (trivCx s₀ h₀ L) () (lwRho ns) [] st)
    {Q : Flow → Shared → Prop} {E : Value → Shared → Prop} (hq : ∀ st', (∃ m news, Fr h₀ L st'.heap m ∧ News h₀ L st'.heap news) → (∃ hp tk, st' = { s₀ with heap := hp, toks := tk }) → Q (.ret (.bool true)) st') :
    wpAny (model prog w) A (execs (lwB.drop 7) (lwE L fa cd)) Q E st := by
  obtain ⟨res, hfin, heq, hk⟩ := hp
  have kl : (lwE L fa cd).kindOf "lexer" = some .local := by kernel_rfl
  have ko : (lwE L fa cd).kindOf "token" = some .local := by kernel_rfl
  have kt : (lwE L fa cd).kindOf "told" = some .local := by kernel_rfl
  have ke : (lwE L fa cd).kindOf "end" = some .local := by kernel_rfl
  have kw : (lwE L fa cd).kindOf "words" = some .local := by kernel_rfl
  have kx : (lwE L fa cd).kindOf "text" = some .local := by kernel_rfl
  have kp : (lwE L fa cd).kindOf "posix" = some .local := by kernel_rfl
  have km : (lwE L fa cd).kindOf "marks" = some .local := by kernel_rfl
  have lx : (lwRho ns).lookup (ofString "text") = some (.str (S (textL ns))) := by rfl
  have lp : (lwRho ns).lookup (ofString "posix") = some (.bool (posixL ns)) := by rfl
  have lm : (lwRho ns).lookup (ofString "marks") = some (.str (S (marksL ns))) := by rfl
  have le : (lwRho ns).lookup (ofString "end") = some (eofV (posixL ns)) := by rfl
  rw [lw_rest]
  refine wpAny_execs_cons (Assign_Tuple_swapped (names := [ofString "lexer", ofString "told", ofString "words"]) (wpAny_Tuple (args_cons ?_ rfl)) (by unfold swapsWithSole; exact swap_off rfl) (swapR_is (lw8_swap L fa cd)))
  refine shlex_expr (C := trivCx s₀ h₀ L) (o₀ := ()) (fun _ _ h => h) (d := d + 1) R (T := textL ns) (M := marksL ns) (posix := posixL ns) (marks_ne ns) (marks_len ns) h
    (evs_cons rfl (ev_local (C := trivCx s₀ h₀ L) R kx (by decide) lx) (evs_cons rfl (ev_const rfl) (evs_cons rfl (ev_local (C := trivCx s₀ h₀ L) R kp (by decide) lp) (evs_cons rfl (ev_local (C := trivCx s₀ h₀ L) R km (by decide) lm) evs_nil)))) rfl (by simp) (by kernel_rfl) fun fz₁ st₁ P _ eT eM eW eP h1 => ?_
  refine args_cons ((ev_list (ds := []) evs_nil (by simp)) fz₁ st₁ _ _ h1 fun fz₂ st₂ v2 s2 h2 x2 => ?_) rfl
  refine args_cons ((ev_const (c := .str (ofString "")) rfl) fz₂ st₂ _ _ h2 fun fz₃ st₃ v3 s3 h3 x3 => ?_) rfl
  refine args_nil ⟨by rw [sizeLine_eq]; simp, ?_⟩
  cases x3
  cases x2 with
  | @list tl us n _ hm hds =>
  cases hds
  rename_i tk3
  refine unpack3 R.hh h3 fun fz₄ st₅ s4 h5 => ?_
  refine wpAny_bind (wpAny_holding (bindName_ (put_val (C := toLex (trivCx s₀ h₀ L) P) R.hk R.hl h5 kw (.str _ _) (fun q hq => (by cases hq)) fun st₆ h6 => ?_)))
  refine wpAny_bind (wpAny_holding (bindName_ (put_ref (C := toLex (trivCx s₀ h₀ L) P) R.hk R.hl h6 kt (by rfl) (fun q hq => (by cases hq)) fun st₇ h7 => ?_)))
  refine wpAny_bind (wpAny_holding (bindName_ (put_ref (C := refsCx (toLex (trivCx s₀ h₀ L) P) [(ofString "told", .ref tl)]) R.hk R.hl h7 kl (by rfl) (fun q hq => ?_) fun st₈ h8 => ?_)))
  · have hq : q ∈ [(ofString "told", Value.ref tl)] := hq
    simp only [List.mem_singleton] at hq
    subst hq
    exact (show (ofString "told") ≠ ofString "lexer" by decide)
  refine wpAny_pure ?_
  dsimp only
  have h9 : At (lwT s₀ h₀ L P tl [] n) (loOf rs0) ((ofString "words", .str (ofString "")) :: lwRho ns) [] st₈ := by
    obtain ⟨hp, tk, m, Rl, e0, F, N, rp, ap, lc, rf⟩ := h8
    have hmm : (tl, listOf ([] : List Value).toArray n) ∈ fz₄ := s4 _ (s3 _ hm)
    refine ⟨hp, tk, m, Rl, e0, F, fun q hq => ?_, ?_, fun q hq r hr => ?_, fun x v hx => ?_, fun q hq => ?_⟩
    · have hq : q ∈ Rl ++ ([] ++ [(tl, listOf ([] : List Value).toArray n)]) := hq
      simp only [List.nil_append, List.mem_append, List.mem_singleton] at hq
      rcases hq with hq | rfl
      · exact N q (List.mem_append_left _ hq)
      · exact N _ (List.mem_append_right _ (List.mem_append_left _ hmm))
    · have rp' : lexRep P (loOf rs0) fz₄ Rl := by rw [rs0_lo]; exact rp
      exact rep_scal rp'
    · have hr : r ∈ [(tl, listOf ([] : List Value).toArray n)] := hr
      simp only [List.mem_singleton] at hr
      subst hr
      exact ap q hq _ (List.mem_append_left _ hmm)
    · obtain ⟨v', e1, e2⟩ := lc x v hx
      exact ⟨v', e1, vr_scal (scalR_cons (lwRho_scal ns) rfl x v hx) e2⟩
    · have hq : q ∈ [(ofString "told", Value.ref tl), (ofString "lexer", Value.ref P.lx)] := hq
      simp only [List.mem_cons, List.not_mem_nil, or_false] at hq
      rcases hq with rfl | rfl
      · exact rf _ (.tail _ (.head _))
      · exact rf _ (.head _)
  have hT : P.T.length ≤ 100 := by rw [eT]; exact text_len hn
  have hM : P.M.length ≤ 100 := by rw [eM]; exact marks_len ns
  have hM1 : P.M ≠ [] := by rw [eM]; exact marks_ne ns
  rw [← eT, ← eM, ← eP] at hfin
  have hW : wordsOf P.posix P.M = P.W := by rw [eW, eM, eP]
  rw [hW] at hfin
  have le' : (lwRho ns).lookup (ofString "end") = some (eofV P.posix) := by rw [eP]; exact le
  refine wpAny_execs_cons (try_ok R.ks hb (by lia) hT hM hM1 kl ko kt ke (by kernel_rfl) (by kernel_rfl) (by kernel_rfl) kw (lwRho_scal ns) le' (by rfl) (by rfl) (rs0_top _) hfin h9 (by rfl) (by rfl) (by rfl) (by rfl) fun st₉ vs k fz h10 hv => ?_)
  refine wpAny_execs_cons (ret_ok (d := d) (show Rim (K02 Pm) p loose mean mg mb A₀ base outer A (lwE L fa cd) h₀ L (d + 2) from ⟨R.B, ks_in R.X, R.T, R.hA, R.hf, R.hk, R.hl, R.hg, R.hb, R.hh, R.hi, by have := R.room; lia⟩) hu kl kt kw kx kp km (by kernel_rfl) h10 hv lx lp lm (text_len hn) heq hk fun st' hh1 hh2 => ?_)
  exact hq st' hh1 hh2
end
inductive Rd (T M W : List Nat) (posix : Bool) : RS → ROut → Prop
  | go {s s' : RS} {x : ROut} (h : lexTurn T M W posix s = .go s') (hr : Rd T M W posix s' x) : Rd T M W posix s x
  | brk {s s' : RS} (h : lexTurn T M W posix s = .brk s') : Rd T M W posix s (.brk s')
  | exc {s s' : RS} {k : Nat} (h : lexTurn T M W posix s = .exc k s') : Rd T M W posix s (.exc k s')
noncomputable def tokOf (posix : Bool) : ROut → Option TokR
  | .brk s' => some (.tok (rawV posix s') { s' with tok := [] })
  | .exc k s' => some (.exc k s')
  | .go _ => none
theorem rd_loop {T M W : List Nat} {posix : Bool} {s : RS} {x : ROut} (h : Rd T M W posix s x) : ∀ n y, rdLoop T M W posix n s = some y → y = x := by
  induction h with
  | go h _ ih =>
    intro n y hy
    cases n with
    | zero => cases hy
    | succ n =>
      unfold rdLoop at hy
      rw [h] at hy
      exact ih n y hy
  | brk h =>
    intro n y hy
    cases n with
    | zero => cases hy
    | succ n => unfold rdLoop at hy; rw [h] at hy; exact (Option.some.inj hy).symm
  | exc h =>
    intro n y hy
    cases n with
    | zero => cases hy
    | succ n => unfold rdLoop at hy; rw [h] at hy; exact (Option.some.inj hy).symm
theorem rd_nogo {T M W : List Nat} {posix : Bool} {s s' : RS} {x : ROut} (h : Rd T M W posix s x) : x ≠ .go s' := by
  induction h with
  | go _ _ ih => exact ih
  | brk _ => intro e; cases e
  | exc _ => intro e; cases e
theorem read_of {T M W : List Nat} {posix : Bool} {s : RS} (hs : LTop T s) {x : ROut} (h : Rd T M W posix { s with quoted := false, esc := 32 } x) : readTok T M W posix s = tokOf posix x := by
  obtain ⟨y, hy⟩ := readTok_total (M := M) (W := W) (posix := posix) hs
  unfold readTok at hy ⊢
  cases e : rdLoop T M W posix (2 * T.length + 10) { s with quoted := false, esc := 32 } with
  | none => rw [e] at hy; cases hy
  | some z =>
    have := rd_loop h _ z e
    subst this
    cases z with
    | go s' => exact absurd rfl (rd_nogo h)
    | brk s' => rfl
    | exc k s' => rfl
noncomputable abbrev fresh (s : RS) : RS := { s with tok := [], quoted := false, esc := 32 }
inductive All (T M W : List Nat) (posix : Bool) : Nat → List V → RS → (List V × Str × RS) → Prop
  | go {n : Nat} {told : List V} {s s' : RS} {fin : List V × Str × RS} (h : lexTurn T M W posix s = .go s') (ha : All T M W posix n told s' fin) : All T M W posix n told s fin
  | exc {n k : Nat} {told : List V} {s s' : RS} (h : lexTurn T M W posix s = .exc k s') : All T M W posix n told s (told, xtext k, s')
  | tok {n : Nat} {told : List V} {s s' : RS} {fin : List V × Str × RS} (h : lexTurn T M W posix s = .brk s') (hc : cmpV .NotEq (rawV posix s') (eofV posix) = some (.bool true)) (hl : LTop T { s' with tok := [] })
      (ha : All T M W posix n (told ++ [rowV (rawV posix s') s']) (fresh s') fin) : All T M W posix (n + 1) told s fin
  | done {n : Nat} {told : List V} {s s' s2 : RS} {d2 : V} (h : lexTurn T M W posix s = .brk s') (hc : cmpV .NotEq (rawV posix s') (eofV posix) = some (.bool false)) (hr : readTok T M W posix { s' with tok := [] } = some (.tok d2 s2)) (hc2 : cmpV .NotEq d2 (eofV posix) = some (.bool false)) : All T M W posix n told s (told, ofString "", s2)
def FinL (T M W : List Nat) (posix : Bool) (n : Nat) (d : V) (s1 : RS) (told : List V) (fin : List V × Str × RS) : Prop :=
  (∃ k d' s', LoopR T M W posix n d s1 told (fin.1, some k, d', s') ∧ fin.2 = (xtext k, s')) ∨ (∃ d' s' d2 s2, LoopR T M W posix n d s1 told (fin.1, none, d', s') ∧ readTok T M W posix s' = some (.tok d2 s2) ∧ cmpV .NotEq d2 (eofV posix) = some (.bool false) ∧ fin.2 = (ofString "", s2))
theorem all_read {T M W : List Nat} {posix : Bool} {n : Nat} {told : List V} {s : RS} {fin : List V × Str × RS} (h : All T M W posix n told s fin) :
    ∃ x, Rd T M W posix s x ∧ (∀ k s', x = .exc k s' → fin = (told, xtext k, s')) ∧ ∀ s', x = .brk s' → FinL T M W posix n (rawV posix s') { s' with tok := [] } told fin := by
  induction h with
  | go h _ ih =>
    obtain ⟨x, h1, h2⟩ := ih
    exact ⟨x, .go h h1, h2⟩
  | exc h => exact ⟨_, .exc h, fun k s' e => (by cases e; rfl), fun s' e => by cases e⟩
  | @tok n told s s' fin h hc hl _ ih =>
    obtain ⟨x, h1, h2, h3⟩ := ih
    have hr := read_of hl h1
    refine ⟨_, .brk h, fun k s' e => (by cases e), fun s₂ e => ?_⟩
    cases e
    cases x with
    | go s₃ => exact absurd rfl (rd_nogo h1)
    | exc k s₃ =>
      have := h2 k s₃ rfl
      subst this
      exact .inl ⟨k, _, s₃, .fault hc hr, rfl⟩
    | brk s₃ =>
      rcases h3 s₃ rfl with ⟨k, d', s₄, q1, q2⟩ | ⟨d', s₄, d2, s2, q1, q2, q3, q4⟩
      · exact .inl ⟨k, d', s₄, .more hc hr q1, q2⟩
      · exact .inr ⟨d', s₄, d2, s2, .more hc hr q1, q2, q3, q4⟩
  | done h hc hr hc2 =>
    refine ⟨_, .brk h, fun k s' e => (by cases e), fun s₂ e => ?_⟩
    cases e
    exact .inr ⟨_, _, _, _, .stop hc, hr, hc2, rfl⟩
theorem all_fin {T M W : List Nat} {posix : Bool} {n : Nat} (hn : n ≤ 900) {fin : List V × Str × RS} (h : All T M W posix n [] rs0 fin) : FinR T M W posix rs0 fin := by
  obtain ⟨x, h1, h2, h3⟩ := all_read h
  have hr := read_of (rs0_top T) (show Rd T M W posix { rs0 with quoted := false, esc := 32 } x from h1)
  cases x with
  | go s₃ => exact absurd rfl (rd_nogo h1)
  | exc k s₃ =>
    rw [h2 k s₃ rfl]
    exact .f1 hr
  | brk s₃ =>
    obtain ⟨told, wd, sf⟩ := fin
    rcases h3 s₃ rfl with ⟨k, d', s₄, q1, q2⟩ | ⟨d', s₄, d2, s2, q1, q2, q3, q4⟩
    · obtain ⟨rfl, rfl⟩ := Prod.mk.inj q2
      exact .f2 hr q1 hn
    · obtain ⟨rfl, rfl⟩ := Prod.mk.inj q4
      exact .f3 hr q1 hn q2 q3
theorem all_more {T M W : List Nat} {posix : Bool} {n : Nat} {told : List V} {s : RS} {fin : List V × Str × RS} (h : All T M W posix n told s fin) : All T M W posix (n + 1) told s fin := by
  induction h with
  | go h _ ih => exact .go h ih
  | exc h => exact .exc h
  | tok h hc hl _ ih => exact .tok h hc hl ih
  | done h hc hr hc2 => exact .done h hc hr hc2
inductive Go (T M W : List Nat) (posix : Bool) : RS → RS → Prop
  | here {s : RS} : Go T M W posix s s
  | on {s s' s₂ : RS} (h : lexTurn T M W posix s = .go s') (hg : Go T M W posix s' s₂) : Go T M W posix s s₂
theorem go_all {T M W : List Nat} {posix : Bool} {n : Nat} {told : List V} {s s' : RS} {fin : List V × Str × RS} (hg : Go T M W posix s s') (h : All T M W posix n told s' fin) : All T M W posix n told s fin := by
  induction hg with
  | here => exact h
  | on h1 _ ih => exact .go h1 (ih h)
noncomputable def wordB (posix : Bool) (c : Nat) : Bool :=
  (decide (97 ≤ c) && decide (c ≤ 122)) || (decide (65 ≤ c) && decide (c ≤ 90)) || (decide (48 ≤ c) && decide (c ≤ 57)) || decide (c ∈ [95, 126, 45, 46, 47, 42, 63, 61]) || (posix && (decide (192 ≤ c) && decide (c ≤ 255)) && !decide (c ∈ [215, 247]))
theorem wl_small : ∀ posix : Bool, ∀ c : Fin 256, decide (c.val ∈ wl posix) = wordB posix c.val := by decide +kernel
theorem wl_lt : ∀ posix : Bool, ∀ c ∈ wl posix, c < 256 := by decide +kernel
theorem mem_wl (posix : Bool) (c : Nat) : c ∈ wl posix ↔ wordB posix c = true := by
  by_cases h : c < 256
  · have := wl_small posix ⟨c, h⟩
    rw [← decide_eq_true_iff (p := c ∈ wl posix)]
    have this : decide (c ∈ wl posix) = wordB posix c := this
    rw [this]
  · constructor
    · intro hc; exact absurd (wl_lt posix c hc) h
    · intro hc
      unfold wordB at hc
      have e : decide (c ∈ [95, 126, 45, 46, 47, 42, 63, 61]) = false := by
        rw [decide_eq_false_iff_not]
        simp only [List.mem_cons, List.not_mem_nil, or_false]; lia
      rw [e, show decide (c ≤ 122) = false by rw [decide_eq_false_iff_not]; lia, show decide (c ≤ 90) = false by rw [decide_eq_false_iff_not]; lia, show decide (c ≤ 57) = false by rw [decide_eq_false_iff_not]; lia, show decide (c ≤ 255) = false by rw [decide_eq_false_iff_not]; lia] at hc
      simp at hc
theorem mem_words (posix : Bool) (M : List Nat) (c : Nat) : c ∈ wordsOf posix M ↔ inWL posix M c = true := by
  unfold wordsOf
  rw [List.mem_filter, mem_wl]
  have e : inWL posix M c = (!decide (c ∈ M) && wordB posix c) := rfl
  rw [e]
  have h2 : (decide (c ∉ onceL M [])) = !decide (c ∈ M) := by
    have : c ∈ onceL M [] ↔ c ∈ M := by rw [mem_onceL]; simp
    by_cases h : c ∈ M
    · rw [decide_eq_true h, decide_eq_false (by rw [this]; simpa using h)]; rfl
    · rw [decide_eq_false h, decide_eq_true (by rw [this]; exact h)]; rfl
  rw [h2, Bool.and_eq_true, and_comm]
theorem line_next {T : List Nat} {k late : Nat} (h : k < T.length) : lineAt T (k + 1) late = lineAt T k late + (if T[k] = 10 then 1 else 0) := by
  unfold lineAt
  rw [List.take_succ, List.getElem?_eq_getElem h, List.count_append]
  by_cases e : T[k] = 10
  · rw [if_pos e]; simp [e]; lia
  · rw [if_neg e]; simp [e]
theorem line_all (T : List Nat) (late : Nat) : lineAt T T.length late = 1 + T.count 10 + late := by
  unfold lineAt; rw [List.take_length]
theorem past_is {T : List Nat} {k : Nat} (h : k ≤ T.length) {late : Nat} (hl : late = 0) : ∃ late', pastC T 35 k late = (pastLine T k, late') ∧ lineAt T (pastLine T k) late' = lineAt T k late + 1 ∧ (late' = 0 ∨ pastLine T k = T.length) ∧ k ≤ pastLine T k ∧ pastLine T k ≤ T.length := by
  subst hl
  have hle := pastLine_le h
  unfold pastC
  rw [if_pos rfl]
  rcases firstAt_spec 10 (T.drop k) k with ⟨e, hn⟩ | ⟨j, e, hj, hn⟩
  · have h1 : pastLine T k = T.length := by unfold pastLine; rw [e]; rfl
    rw [h1, e]
    refine ⟨1, rfl, ?_, .inr rfl, h, Nat.le_refl _⟩
    rw [line_all]
    unfold lineAt
    have : T.count 10 = (T.take k).count 10 := by
      conv => lhs; rw [← List.take_append_drop k T, List.count_append]
      rw [List.count_eq_zero_of_not_mem hn]; rfl
    lia
  · have h1 : pastLine T k = k + j + 1 := by unfold pastLine; rw [e, if_neg (by lia)]; lia
    rw [h1] at hle ⊢
    have h2 : ¬ (firstAt 10 (T.drop k) k + 1 = 0) := by rw [e]; lia
    rw [if_neg h2, e]
    have h3 : (((k + j : Nat) : Int) + 1).toNat = k + j + 1 := by lia
    rw [h3]
    refine ⟨0, rfl, ?_, .inl rfl, hle.1, hle.2⟩
    have hkj : k + j < T.length := by lia
    rw [line_next hkj]
    have hT : T[k + j] = 10 := by
      rw [List.getElem?_drop, List.getElem?_eq_getElem hkj] at hj
      exact Option.some.inj hj
    rw [if_pos hT]
    unfold lineAt
    have : (T.take (k + j)).count 10 = (T.take k).count 10 := by
      rw [List.take_add, List.count_append]
      rw [List.count_eq_zero_of_not_mem hn]; rfl
    lia
section
variable {T M W : List Nat} {posix : Bool}
theorem turn_at {s : RS} {k late : Nat} (hk : k < T.length) (hp : (s.pb = [] ∧ s.pos = k) ∨ (s.pb = [T[k]] ∧ s.pos = k + 1 ∧ T[k] ≠ 10)) (hln : s.ln = lineAt T k late) :
    lexTurn T M W posix s = lexChain T M W posix { s with pos := k + 1, pb := [], ln := lineAt T (k + 1) late } [T[k]] := by
  obtain ⟨st, tok, ln, pos, pb, quoted, esc⟩ := s
  dsimp only at hp hln
  unfold lexTurn
  rcases hp with ⟨rfl, rfl⟩ | ⟨rfl, rfl, h10⟩
  · have e : nextIn T ⟨st, tok, ln, pos, [], quoted, esc⟩ = ([T[pos]], ⟨st, tok, ln, pos + 1, [], quoted, esc⟩) := by
      unfold nextIn readSt; simp only [dif_pos hk]
    rw [e]
    dsimp only
    unfold lined
    rw [line_next hk, ← hln]
    by_cases h : T[pos] = 10
    · rw [if_pos (by rw [h]), if_pos h]
    · rw [if_neg (by simpa using h), if_neg h]; rfl
  · have e : nextIn T ⟨st, tok, ln, k + 1, [T[k]], quoted, esc⟩ = ([T[k]], ⟨st, tok, ln, k + 1, [], quoted, esc⟩) := rfl
    rw [e]
    dsimp only
    unfold lined
    rw [line_next hk, ← hln, if_neg (by simpa using h10), if_neg h10]; rfl
theorem turn_end {s : RS} (hp : s.pb = []) (hk : s.pos = T.length) : lexTurn T M W posix s = lexChain T M W posix s [] := by
  obtain ⟨st, tok, ln, pos, pb, quoted, esc⟩ := s
  dsimp only at hp hk
  subst hp hk
  have e : nextIn T ⟨st, tok, ln, T.length, [], quoted, esc⟩ = ([], ⟨st, tok, ln, T.length, [], quoted, esc⟩) := by
    unfold nextIn readSt; simp
  unfold lexTurn
  rw [e]; rfl
end
def Sim (T M W : List Nat) (posix : Bool) (n : Nat) (told : List V) (s : RS) (v : V) : Prop := ∃ fin, All T M W posix n told s fin ∧ foundV fin = v
section
variable {T M W : List Nat} {posix : Bool} {n : Nat} {told : List V} {s s' : RS} {v : V}
theorem Sim.go (h : lexTurn T M W posix s = .go s') (x : Sim T M W posix n told s' v) : Sim T M W posix n told s v := let ⟨f, a, e⟩ := x; ⟨f, .go h a, e⟩
theorem Sim.gos (h : Go T M W posix s s') (x : Sim T M W posix n told s' v) : Sim T M W posix n told s v := let ⟨f, a, e⟩ := x; ⟨f, go_all h a, e⟩
theorem Sim.more (x : Sim T M W posix n told s v) : Sim T M W posix (n + 1) told s v := let ⟨f, a, e⟩ := x; ⟨f, all_more a, e⟩
theorem Sim.exc {k : Nat} (h : lexTurn T M W posix s = .exc k s') (e : V) (he : e = .tuple [.list told, .tuple [.str (xtext k), stV s'.st, .str (S s'.tok), .int (s'.ln : Int)]]) : Sim T M W posix n told s e := ⟨_, .exc h, by rw [he]; rfl⟩
theorem ne_tok (s : RS) (h : posix = false → s.tok ≠ []) (h2 : posix = true → fullT posix s = true) : rawV posix s = .str (S s.tok) ∧ cmpV .NotEq (rawV posix s) (eofV posix) = some (.bool true) := by
  cases posix with
  | false =>
    have e : rawV false s = .str (S s.tok) := by unfold rawV; rw [if_neg (fun q => by cases q.1)]
    refine ⟨e, ?_⟩
    rw [e]
    have h := h rfl
    show some (Dat.bool (!strEq (S s.tok) (ofString ""))) = _
    rw [litnil, strEq_S]
    have : (s.tok == []) = false := by simpa using h
    rw [this]; rfl
  | true =>
    have h2 := h2 rfl
    have e : rawV true s = .str (S s.tok) := by
      unfold rawV
      rw [if_neg]
      rintro ⟨_, q1, q2⟩
      unfold fullT at h2
      rw [q1, q2] at h2
      cases h2
    refine ⟨e, ?_⟩
    rw [e]; rfl
theorem Sim.tok (h : lexTurn T M W posix s = .brk s') (h1 : posix = false → s'.tok ≠ []) (h2 : posix = true → fullT posix s' = true) (hl : LTop T { s' with tok := [] }) (x : Sim T M W posix n (told ++ [.tuple [.str (S s'.tok), .int (s'.ln : Int)]]) (fresh s') v) : Sim T M W posix (n + 1) told s v := by
  obtain ⟨f, a, e⟩ := x
  obtain ⟨e1, e2⟩ := ne_tok s' h1 h2
  refine ⟨f, .tok h e2 hl ?_, e⟩
  rw [e1]; exact a
theorem end_tok : rawV posix { s with tok := [], quoted := false } = eofV posix ∧ cmpV .NotEq (eofV posix) (eofV posix) = some (.bool false) := by
  cases posix with
  | false =>
    refine ⟨?_, ?_⟩
    · unfold rawV; rw [if_neg (fun q => by cases q.1)]; show Dat.str (S []) = Dat.str _; rw [← litnil]
    · show some (Dat.bool (!strEq (ofString "") (ofString ""))) = _
      rw [litnil, strEq_S]; rfl
  | true => exact ⟨by unfold rawV; rw [if_pos ⟨rfl, rfl, rfl⟩]; rfl, rfl⟩
theorem read_end {s : RS} (hst : s.st = 0) (hp : s.pb = []) (hk : s.pos = T.length) (ht : s.tok = []) : readTok T M W posix s = some (.tok (eofV posix) { s with tok := [], quoted := false, esc := 32 }) := by
  have hl : LTop T s := ⟨.inl hst, by lia, by rw [hp]; simp, fun h => absurd hp h, by rw [hp]; simp, ht⟩
  have h : lexTurn T M W posix { s with quoted := false, esc := 32 } = .brk { s with tok := [], quoted := false, esc := 32 } := by
    rw [turn_end (s := { s with quoted := false, esc := 32 }) hp hk]
    unfold lexChain
    rw [if_pos hst]
  rw [read_of hl (.brk h)]
  show some (TokR.tok (rawV posix _) _) = _
  rw [(end_tok (posix := posix) (s := { s with esc := 32 })).1]
theorem Sim.over {s' : RS} (h : lexTurn T M W posix s = .brk s') (h0 : s'.st = 0) (hp : s'.pb = []) (hk : s'.pos = T.length) (ht : s'.tok = []) (hq : s'.quoted = false) :
    Sim T M W posix n told s (.tuple [.list told, .tuple [.str (ofString ""), .none, .str (S []), .int (s'.ln : Int)]]) := by
  obtain ⟨st, tok, ln, pos, pb, quoted, esc⟩ := s'
  dsimp only at h0 hp hk ht hq
  subst h0 hp hk ht hq
  have e := end_tok (posix := posix) (s := ⟨0, [], ln, T.length, [], false, esc⟩)
  refine ⟨_, .done h (by rw [show rawV posix ⟨0, [], ln, T.length, [], false, esc⟩ = eofV posix from e.1]; exact e.2) (read_end (s := ⟨0, [], ln, T.length, [], false, esc⟩) rfl rfl rfl rfl) e.2, rfl⟩
end
section
variable {T M W : List Nat} {posix : Bool} {s : RS} {cs : List Nat}
theorem chain_0 (h : s.st = 0) : lexChain T M W posix s cs = .brk { s with tok := [] } := by unfold lexChain; rw [if_pos h]
theorem chain_32 (h : s.st = 32) : lexChain T M W posix s cs = lexNil T M W posix s cs := by unfold lexChain; rw [if_neg (by rw [h]; decide), if_pos h]
theorem chain_q (h : s.st = 39 ∨ s.st = 34) : lexChain T M W posix s cs = lexQuote posix s cs := by
  unfold lexChain
  rw [if_neg (by rcases h with h | h <;> rw [h] <;> decide), if_neg (by rcases h with h | h <;> rw [h] <;> decide), if_pos h]
theorem chain_92 (h : s.st = 92) : lexChain T M W posix s cs = lexEsc s cs := by
  unfold lexChain
  rw [if_neg (by rw [h]; decide), if_neg (by rw [h]; decide), if_neg (by rw [h]; decide), if_pos h]
theorem chain_99 (h : s.st = 99) : lexChain T M W posix s cs = lexRun T M posix s cs := by
  unfold lexChain
  rw [if_neg (by rw [h]; decide), if_neg (by rw [h]; decide), if_neg (by rw [h]; decide), if_neg (by rw [h]; decide), if_pos h]
theorem chain_97 (h : s.st = 97) : lexChain T M W posix s cs = lexWord T W posix s cs := by
  unfold lexChain
  rw [if_neg (by rw [h]; decide), if_neg (by rw [h]; decide), if_neg (by rw [h]; decide), if_neg (by rw [h]; decide), if_neg (by rw [h]; decide)]
end
structure Piece (T M W : List Nat) (base : List Nat) (m : Nat) (s : RS) (p : List Nat × List Nat × Nat) : Prop where
  ok : p.2.2 = 0 → ∃ s', Go T M W true s s' ∧ s'.st = 97 ∧ s'.tok = base ++ p.1 ∧ s'.pos = T.length - p.2.1.length ∧ s'.pb = [] ∧ s'.ln = lineAt T (T.length - p.2.1.length) 0 ∧ fullT true s' = true ∧ s.pos < T.length - p.2.1.length
  bad : p.2.2 = 1 → ∃ s' s2, Go T M W true s s' ∧ lexTurn T M W true s' = .exc 1 s2 ∧ s2.st = m ∧ s2.tok = base ++ p.1 ∧ s2.ln = 1 + T.count 10
  bad2 : p.2.2 = 2 → ∃ s' s2, Go T M W true s s' ∧ lexTurn T M W true s' = .exc 2 s2 ∧ s2.st = 92 ∧ s2.tok = base ++ p.1 ∧ s2.ln = 1 + T.count 10
  le : p.2.2 ≤ 2
theorem Piece.on {T M W base : List Nat} {m : Nat} {s s' : RS} {p : List Nat × List Nat × Nat} (h : Go T M W true s s') (hp : s.pos ≤ s'.pos) (x : Piece T M W base m s' p) : Piece T M W base m s p := by
  have tr : ∀ {a b c : RS}, Go T M W true a b → Go T M W true b c → Go T M W true a c := fun h1 h2 => by
    induction h1 with
    | here => exact h2
    | on q _ ih => exact .on q (ih h2)
  refine ⟨fun e => ?_, fun e => ?_, fun e => ?_, x.le⟩
  · obtain ⟨s2, a1, a2, a3, a4, a5, a6, a7, a8⟩ := x.ok e
    exact ⟨s2, tr h a1, a2, a3, a4, a5, a6, a7, by lia⟩
  · obtain ⟨s2, s3, a1, a2⟩ := x.bad e
    exact ⟨s2, s3, tr h a1, a2⟩
  · obtain ⟨s2, s3, a1, a2⟩ := x.bad2 e
    exact ⟨s2, s3, tr h a1, a2⟩
theorem drop_at {T : List Nat} {k : Nat} (h : k < T.length) : T.drop k = T[k] :: T.drop (k + 1) := List.drop_eq_getElem_cons h
theorem full_q {s : RS} (h : s.quoted = true) : fullT true s = true := by unfold fullT; rw [h]; simp
theorem full_t {posix : Bool} {s : RS} (h : s.tok ≠ []) : fullT posix s = true := by
  unfold fullT
  cases e : s.tok with
  | nil => exact absurd e h
  | cons a r => rfl
theorem quote_ok {T M W base : List Nat} {m : Nat} (hm : m = 39 ∨ m = 34) : ∀ (n k : Nat) (a : List Nat) (s : RS), T.length - k ≤ n → k ≤ T.length → s.st = m → s.pb = [] → s.pos = k → s.ln = lineAt T k 0 → s.tok = base ++ a →
    Piece T M W base m s (pieceL m (T.drop k) a) := by
  intro n
  have hm92 : m ≠ 92 := by rcases hm with rfl | rfl <;> decide
  have chain : ∀ (s : RS) (cs : List Nat), s.st = m → lexChain T M W true s cs = lexQuote true s cs := fun s cs h => by
    unfold lexChain
    rw [if_neg (by rw [h]; rcases hm with rfl | rfl <;> decide), if_neg (by rw [h]; rcases hm with rfl | rfl <;> decide), if_pos (by rw [h]; exact hm)]
  induction n with
  | zero =>
    intro k a s hn hk hst hpb hpos hln htok
    have e : k = T.length := by lia
    subst e
    rw [List.drop_length]
    have hp : pieceL m [] a = (a, [], 1) := by unfold pieceL; rw [if_neg hm92]
    rw [hp]
    refine ⟨fun e => (by cases e), fun _ => ?_, fun e => (by cases e), (by show 1 ≤ 2; decide)⟩
    exact ⟨s, { s with quoted := true }, .here, by rw [turn_end hpb hpos, chain s _ hst]; rfl, hst, htok, by show s.ln = _; rw [hln, line_all, Nat.add_zero]⟩
  | succ n ih =>
    intro k a s hn hk hst hpb hpos hln htok
    by_cases hk' : k < T.length
    · rw [drop_at hk']
      have ht := turn_at (M := M) (W := W) (posix := true) (s := s) hk' (.inl ⟨hpb, hpos⟩) hln
      have ht := ht.trans (chain _ _ (by exact hst))
      unfold pieceL
      rw [if_neg hm92]
      by_cases hc : T[k] = m
      · rw [if_pos hc]
        have ht2 : lexTurn T M W true s = .go { s with pos := k + 1, pb := [], ln := lineAt T (k + 1) 0, st := 97, quoted := true } := by
          rw [ht]; unfold lexQuote; dsimp only; rw [if_pos (by rw [hst]; exact hc), if_pos rfl]
        have hl : T.length - (T.drop (k + 1)).length = k + 1 := by rw [List.length_drop]; lia
        refine ⟨fun _ => ?_, fun e => (by cases e), fun e => (by cases e), (by show 0 ≤ 2; decide)⟩
        refine ⟨_, .on ht2 .here, rfl, htok, ?_, rfl, ?_, full_q rfl, ?_⟩
        · rw [hl]
        · rw [hl]
        · rw [hl, hpos]; exact Nat.lt_succ_self _
      · rw [if_neg hc]
        by_cases h92 : T[k] = 92 ∧ m = 34
        · rw [if_pos h92]
          have ht2 : lexTurn T M W true s = .go { s with pos := k + 1, pb := [], ln := lineAt T (k + 1) 0, esc := 34, st := 92, quoted := true } := by
            rw [ht]; unfold lexQuote; dsimp only
            rw [if_neg (by rw [hst]; exact hc), if_pos ⟨rfl, h92.1, by rw [hst]; exact h92.2⟩, hst, h92.2]
          by_cases hk2 : k + 1 < T.length
          · rw [drop_at hk2]
            dsimp only
            have ht3 := turn_at (M := M) (W := W) (posix := true) (s := { s with pos := k + 1, pb := [], ln := lineAt T (k + 1) 0, esc := 34, st := 92, quoted := true }) hk2 (.inl ⟨rfl, rfl⟩) rfl
            have ht4 : lexTurn T M W true { s with pos := k + 1, pb := [], ln := lineAt T (k + 1) 0, esc := 34, st := 92, quoted := true } = .go { s with pos := k + 1 + 1, pb := [], ln := lineAt T (k + 1 + 1) 0, esc := 34, st := 34, quoted := true, tok := base ++ (a ++ (if T[k + 1] = 34 ∨ T[k + 1] = 92 then [T[k + 1]] else [92, T[k + 1]])) } := by
              rw [ht3, chain_92 rfl]
              unfold lexEsc
              dsimp only
              rw [htok]
              by_cases hd : T[k + 1] = 34 ∨ T[k + 1] = 92
              · rw [if_pos hd, if_neg (by rintro ⟨_, q1, q2⟩; rcases hd with e | e <;> contradiction)]
                simp [List.append_assoc]
              · rw [if_neg hd, if_pos ⟨by decide, fun e => hd (.inr e), fun e => hd (.inl e)⟩]
                simp [List.append_assoc]
            refine Piece.on (.on ht2 (.on ht4 .here)) (by show s.pos ≤ k + 1 + 1; lia) (ih (k + 1 + 1) _ _ (by lia) (by lia) h92.2.symm rfl rfl rfl rfl)
          · have e : k + 1 = T.length := by lia
            rw [e, List.drop_length]
            dsimp only
            refine ⟨fun q => (by cases q), fun q => (by cases q), fun _ => ?_, (by show 2 ≤ 2; decide)⟩
            have ht5 : lexTurn T M W true { s with pos := k + 1, pb := [], ln := lineAt T (k + 1) 0, esc := 34, st := 92, quoted := true } = .exc 2 { s with pos := k + 1, pb := [], ln := lineAt T (k + 1) 0, esc := 34, st := 92, quoted := true } := by
              rw [turn_end rfl (by exact e), chain_92 rfl]; rfl
            exact ⟨_, _, .on ht2 .here, ht5, rfl, htok, by show lineAt T (k + 1) 0 = _; rw [e, line_all, Nat.add_zero]⟩
        · rw [if_neg h92]
          have ht2 : lexTurn T M W true s = .go { s with pos := k + 1, pb := [], ln := lineAt T (k + 1) 0, tok := base ++ (a ++ [T[k]]), quoted := true } := by
            rw [ht]; unfold lexQuote; dsimp only
            rw [if_neg (by rw [hst]; exact hc), if_neg (by rintro ⟨_, q1, q2⟩; exact h92 ⟨q1, hst ▸ q2⟩), htok, List.append_assoc]
          exact Piece.on (.on ht2 .here) (by show s.pos ≤ k + 1; lia) (ih (k + 1) _ _ (by lia) (by lia) hst rfl rfl rfl rfl)
    · have e : k = T.length := by lia
      subst e
      rw [List.drop_length]
      have hp : pieceL m [] a = (a, [], 1) := by unfold pieceL; rw [if_neg hm92]
      rw [hp]
      refine ⟨fun e => (by cases e), fun _ => ?_, fun e => (by cases e), (by show 1 ≤ 2; decide)⟩
      exact ⟨s, { s with quoted := true }, .here, by rw [turn_end hpb hpos, chain s _ hst]; rfl, hst, htok, by show s.ln = _; rw [hln, line_all, Nat.add_zero]⟩
theorem esc_ok {T M W base : List Nat} {k : Nat} {s : RS} (hk : k ≤ T.length) (hst : s.st = 92) (hesc : s.esc = 97) (hpb : s.pb = []) (hpos : s.pos = k) (hln : s.ln = lineAt T k 0) (htok : s.tok = base) :
    Piece T M W base 92 s (pieceL 92 (T.drop k) []) := by
  by_cases hk' : k < T.length
  · rw [drop_at hk']
    have hp : pieceL 92 (T[k] :: T.drop (k + 1)) [] = ([T[k]], T.drop (k + 1), 0) := by unfold pieceL; rw [if_pos rfl]
    rw [hp]
    have ht := turn_at (M := M) (W := W) (posix := true) (s := s) hk' (.inl ⟨hpb, hpos⟩) hln
    have ht := ht.trans (chain_92 (by exact hst))
    have ht2 : lexTurn T M W true s = .go { s with pos := k + 1, pb := [], ln := lineAt T (k + 1) 0, st := 97, tok := base ++ [T[k]] } := by
      rw [ht]; unfold lexEsc; dsimp only
      rw [hesc, if_neg (by rintro ⟨q, _⟩; revert q; decide), htok]
    have hl : T.length - (T.drop (k + 1)).length = k + 1 := by rw [List.length_drop]; lia
    refine ⟨fun _ => ?_, fun e => (by cases e), fun e => (by cases e), (by show 0 ≤ 2; decide)⟩
    refine ⟨_, .on ht2 .here, rfl, rfl, ?_, rfl, ?_, full_t (by simp), ?_⟩
    · rw [hl]
    · rw [hl]
    · rw [hl, hpos]; exact Nat.lt_succ_self _
  · have e : k = T.length := by lia
    subst e
    rw [List.drop_length]
    have hp : pieceL 92 [] [] = ([], [], 2) := rfl
    rw [hp]
    refine ⟨fun e => (by cases e), fun e => (by cases e), fun _ => ?_, (by show 2 ≤ 2; decide)⟩
    exact ⟨s, s, .here, by rw [turn_end hpb hpos, chain_92 hst]; rfl, hst, by rw [htok]; simp, by rw [hln, line_all, Nat.add_zero]⟩
theorem nq_ok {T M W : List Nat} {m : Nat} (hm : m = 39 ∨ m = 34) : ∀ (n k : Nat) (a : List Nat) (s : RS), T.length - k ≤ n → k ≤ T.length → s.st = m → s.pb = [] → s.pos = k → s.ln = lineAt T k 0 → s.tok = a →
    (firstAt m (T.drop k) k = -1 → ∃ s' s2, Go T M W false s s' ∧ lexTurn T M W false s' = .exc 1 s2 ∧ s2.st = m ∧ s2.tok = a ++ T.drop k ∧ s2.ln = 1 + T.count 10) ∧
    (∀ j : Nat, firstAt m (T.drop k) k = (j : Int) → ∃ s' s2, Go T M W false s s' ∧ lexTurn T M W false s' = .brk s2 ∧ s2.st = 32 ∧ s2.tok = a ++ (T.drop k).take (j + 1 - k) ∧ s2.ln = 1 + (T.take j).count 10 ∧ s2.pos = j + 1 ∧ s2.pb = [] ∧ k ≤ j ∧ j < T.length) := by
  intro n
  have hm10 : m ≠ 10 := by rcases hm with rfl | rfl <;> decide
  have fin : ∀ (a : List Nat) (s : RS), s.st = m → s.pb = [] → s.pos = T.length → s.ln = lineAt T T.length 0 → s.tok = a → ∃ s' s2, Go T M W false s s' ∧ lexTurn T M W false s' = .exc 1 s2 ∧ s2.st = m ∧ s2.tok = a ++ [] ∧ s2.ln = 1 + T.count 10 := fun a s hst hpb hpos hln htok =>
    ⟨s, { s with quoted := true }, .here, by rw [turn_end hpb hpos, chain_q (by rw [hst]; exact hm)]; rfl, hst, by rw [List.append_nil]; exact htok, by show s.ln = _; rw [hln, line_all, Nat.add_zero]⟩
  induction n with
  | zero =>
    intro k a s hn hk hst hpb hpos hln htok
    have e : k = T.length := by lia
    subst e
    rw [List.drop_length]
    exact ⟨fun _ => fin a s hst hpb hpos hln htok, fun j hj => by cases hj⟩
  | succ n ih =>
    intro k a s hn hk hst hpb hpos hln htok
    by_cases hk' : k < T.length
    · rw [drop_at hk']
      have ht := turn_at (M := M) (W := W) (posix := false) (s := s) hk' (.inl ⟨hpb, hpos⟩) hln
      have ht := ht.trans (chain_q (by show s.st = 39 ∨ s.st = 34; rw [hst]; exact hm))
      unfold firstAt
      by_cases hc : T[k] = m
      · rw [if_pos hc]
        refine ⟨fun e => (by have : (k : Int) = -1 := e; lia), fun j hj => ?_⟩
        have : k = j := by have : (k : Int) = (j : Int) := hj; lia
        subst this
        refine ⟨s, _, .here, by rw [ht]; unfold lexQuote; dsimp only; rw [if_pos (by rw [hst]; exact hc), if_neg (by decide)], rfl, ?_, ?_, rfl, rfl, Nat.le_refl _, hk'⟩
        · have e1 : k + 1 - k = 1 := by lia
          rw [e1]; show s.tok ++ [T[k]] = _; rw [htok]; rfl
        · show lineAt T (k + 1) 0 = _
          rw [line_next hk', if_neg (by rw [hc]; exact hm10)]; rfl
      · rw [if_neg hc]
        have ht2 : lexTurn T M W false s = .go { s with pos := k + 1, pb := [], ln := lineAt T (k + 1) 0, tok := a ++ [T[k]], quoted := true } := by
          rw [ht]; unfold lexQuote; dsimp only
          rw [if_neg (by rw [hst]; exact hc), if_neg (by rintro ⟨q, _⟩; cases q), htok]
        obtain ⟨i1, i2⟩ := ih (k + 1) (a ++ [T[k]]) { s with pos := k + 1, pb := [], ln := lineAt T (k + 1) 0, tok := a ++ [T[k]], quoted := true } (by lia) (by lia) hst rfl rfl rfl rfl
        refine ⟨fun e => ?_, fun j hj => ?_⟩
        · obtain ⟨s', s2, a1, a2, a3, a4, a5⟩ := i1 e
          exact ⟨s', s2, .on ht2 a1, a2, a3, by rw [a4]; simp, a5⟩
        · obtain ⟨s', s2, a1, a2, a3, a4, a5, a6, a7, a8, a9⟩ := i2 j hj
          refine ⟨s', s2, .on ht2 a1, a2, a3, ?_, a5, a6, a7, by lia, a9⟩
          rw [a4]
          have e1 : j + 1 - k = (j + 1 - (k + 1)) + 1 := by lia
          rw [e1, List.take_succ_cons]; simp
    · have e : k = T.length := by lia
      subst e
      rw [List.drop_length]
      exact ⟨fun _ => fin a s hst hpb hpos hln htok, fun j hj => by cases hj⟩
structure TopS (T : List Nat) (ts : TS) (s : RS) : Prop where
  st : s.st = 32
  tok : s.tok = []
  q : s.quoted = false
  ln : s.ln = lineAt T ts.k ts.late
  at_ : (s.pb = [] ∧ s.pos = ts.k) ∨ ∃ h : ts.k < T.length, s.pb = [T[ts.k]] ∧ s.pos = ts.k + 1 ∧ T[ts.k] ≠ 10
structure MidS (T : List Nat) (posix : Bool) (ts : TS) (s : RS) : Prop where
  st : (ts.kind = 1 ∧ s.st = 99) ∨ (ts.kind = 2 ∧ s.st = 97)
  tok : s.tok = ts.token
  full : fullT posix s = true
  pb : s.pb = []
  pos : s.pos = ts.k
  ln : s.ln = lineAt T ts.k ts.late
structure WF (T : List Nat) (ts : TS) : Prop where
  kind : ts.kind ≤ 2
  k : ts.k ≤ T.length
  late : ts.late = 0 ∨ ts.k = T.length
  tok : ts.kind = 0 → ts.token = []
def Rel (T : List Nat) (posix : Bool) (ts : TS) (s : RS) : Prop := (ts.kind = 0 → TopS T ts s) ∧ (ts.kind ≠ 0 → MidS T posix ts s)
theorem told_app (told : List (List Nat × Nat)) (t : List Nat) (l : Nat) : toldV (told ++ [(t, l)]) = toldV told ++ [.tuple [.str (S t), .int (l : Int)]] := by simp [toldV]
theorem full_ne {s : RS} (h : fullT false s = true) : s.tok ≠ [] := by
  intro e; unfold fullT at h; rw [e] at h; simp at h
section
variable {T M : List Nat} {posix : Bool} {n : Nat} {res : tRes}
noncomputable abbrev Wd (posix : Bool) (M : List Nat) := wordsOf posix M
theorem sim_end {ts : TS} {s : RS} (hk : ts.k = T.length) (w : WF T ts) (hr : Rel T posix ts s) :
    Sim T M (Wd posix M) posix (n + 1) (toldV ts.told) s (tellV (if ts.kind ≠ 0 then ts.told ++ [(ts.token, 1 + T.count 10 + ts.late)] else ts.told, none, 1 + T.count 10 + ts.late)) := by
  have e1 : (ofString "") = S [] := litnil
  by_cases h0 : ts.kind = 0
  · have h := hr.1 h0
    rw [if_neg (by simpa using h0)]
    have hp : s.pb = [] ∧ s.pos = ts.k := by
      rcases h.at_ with q | ⟨q, _⟩
      · exact q
      · lia
    have ht : lexTurn T M (Wd posix M) posix s = .brk { s with st := 0 } := by
      rw [turn_end hp.1 (by rw [hp.2, hk]), chain_32 h.st]; rfl
    have := Sim.over (n := n + 1) (told := toldV ts.told) ht rfl hp.1 (by show s.pos = _; rw [hp.2, hk]) h.tok h.q
    have e2 : s.ln = 1 + T.count 10 + ts.late := by rw [h.ln, hk, line_all]
    have e3 : tellV (ts.told, none, 1 + T.count 10 + ts.late) = .tuple [.list (toldV ts.told), .tuple [.str (ofString ""), .none, .str (S []), .int (s.ln : Int)]] := by
      rw [e2, ← e1]; rfl
    rw [e3]; exact this
  · have h := hr.2 h0
    rw [if_pos h0]
    have ht : lexTurn T M (Wd posix M) posix s = .brk { s with st := 0 } := by
      rw [turn_end h.pb (by rw [h.pos, hk])]
      rcases h.st with ⟨_, q⟩ | ⟨_, q⟩
      · rw [chain_99 q]; rfl
      · rw [chain_97 q]; rfl
    refine Sim.tok ht (fun e => full_ne (by rw [← e]; exact h.full)) (fun _ => h.full) ⟨.inl rfl, by show s.pos ≤ _; rw [h.pos, hk]; exact Nat.le_refl _, by show s.pb.length ≤ 1; rw [h.pb]; simp, fun q => absurd h.pb q, by show s.pb.length ≤ _; rw [h.pb]; simp, rfl⟩ ?_
    have e2 : s.ln = 1 + T.count 10 + ts.late := by rw [h.ln, hk, line_all]
    have ht2 : lexTurn T M (Wd posix M) posix (fresh { s with st := 0 }) = .brk { s with st := 0, tok := [], quoted := false, esc := 32 } := by
      rw [turn_end (s := fresh { s with st := 0 }) h.pb (by show s.pos = _; rw [h.pos, hk]), chain_0 (s := fresh { s with st := 0 }) rfl]
    have := Sim.over (n := n) (told := toldV ts.told ++ [.tuple [.str (S s.tok), .int (s.ln : Int)]]) ht2 rfl h.pb (by show s.pos = _; rw [h.pos, hk]) rfl rfl
    have e3 : tellV (ts.told ++ [(ts.token, 1 + T.count 10 + ts.late)], none, 1 + T.count 10 + ts.late) = .tuple [.list (toldV ts.told ++ [.tuple [.str (S s.tok), .int (s.ln : Int)]]), .tuple [.str (ofString ""), .none, .str (S []), .int (s.ln : Int)]] := by
      rw [e2, h.tok, ← told_app, ← e1]; rfl
    rw [e3]; exact this
theorem sim_cut {ts' : TS} {s s' : RS} {told : List (List Nat × Nat)} {tok : List Nat} {line : Nat} (IH : ∀ ts' s', tellRun T M posix n ts' = some res → WF T ts' → Rel T posix ts' s' → Sim T M (Wd posix M) posix (n + 1) (toldV ts'.told) s' (tellV res))
    (hrun : tellRun T M posix n ts' = some res) (hw : WF T ts') (h0 : ts'.kind = 0) (ht : lexTurn T M (Wd posix M) posix s = .brk s') (hf : fullT posix s' = true) (htok : s'.tok = tok) (hln : s'.ln = line) (htold : ts'.told = told ++ [(tok, line)])
    (hst : s'.st = 32) (hl2 : s'.ln = lineAt T ts'.k ts'.late) (hat : (s'.pb = [] ∧ s'.pos = ts'.k) ∨ ∃ h : ts'.k < T.length, s'.pb = [T[ts'.k]] ∧ s'.pos = ts'.k + 1 ∧ T[ts'.k] ≠ 10) :
    Sim T M (Wd posix M) posix (n + 1 + 1) (toldV told) s (tellV res) := by
  refine Sim.tok ht (fun e => full_ne (by rw [← e]; exact hf)) (fun _ => hf) ⟨.inr hst, ?_, ?_, fun _ => hst, ?_, rfl⟩ ?_
  · show s'.pos ≤ _
    rcases hat with ⟨_, q⟩ | ⟨h, _, q, _⟩
    · rw [q]; exact hw.k
    · rw [q]; exact h
  · show s'.pb.length ≤ 1
    rcases hat with ⟨q, _⟩ | ⟨_, q, _⟩ <;> rw [q] <;> simp
  · show s'.pb.length ≤ s'.pos
    rcases hat with ⟨q, _⟩ | ⟨_, q, q2, _⟩
    · rw [q]; simp
    · rw [q, q2]; simp
  · have := IH ts' (fresh s') hrun hw ⟨fun _ => ⟨hst, rfl, rfl, hl2, hat⟩, fun h => absurd h0 h⟩
    rw [htold, told_app] at this
    rw [htok, hln]; exact this
end
theorem wsr_of {c : Nat} (h : c ∈ [32, 9, 13, 10]) : c ∈ [32, 9, 13, 10, 35] := List.mem_append_left [35] h
theorem wsr_no {c : Nat} (h : c ∉ [32, 9, 13, 10]) (h2 : c ≠ 35) : c ∉ [32, 9, 13, 10, 35] := fun q => (List.mem_append (t := [35]).mp q).elim h fun q => h2 (List.mem_singleton.mp q)
theorem q3_of {c : Nat} (h : c ∈ [39, 34]) : c ∈ [39, 34, 92] := List.mem_append_left [92] h
noncomputable def stepTo (T M : List Nat) (posix : Bool) (n : Nat) : TOut → Option tRes
  | .go s' => tellRun T M posix n s'
  | .fin td wd cc tk ln => some (td, some (wd, cc, tk), ln)
section
variable {T M : List Nat} {posix : Bool} {kind : Nat} {token : List Nat} {told : List (List Nat × Nat)} {c k late line : Nat} {grown : Bool}
theorem step_no {s : TS} (h : c ≠ 35) : tellStep T M posix s c = tellTail T M posix s.kind s.token s.told c (s.k + 1) s.late (lineAt T (s.k + 1) s.late) (grownL posix M s.kind c) := by
  unfold tellStep
  have e : pastC T c (s.k + 1) s.late = (s.k + 1, s.late) := by unfold pastC; rw [if_neg h]
  rw [e]
  exact if_neg fun q => h q.1
theorem tt_ws (h : c ∈ [32, 9, 13, 10, 35]) : tellTail T M posix kind token told c k late line grown = .go ⟨0, [], k, late, if kind ≠ 0 then told ++ [(token, line)] else told⟩ := if_pos h
theorem tt_cut (h1 : c ∉ [32, 9, 13, 10, 35]) (h : kind ≠ 0 ∧ grown = false) : tellTail T M posix kind token told c k late line grown = .go ⟨0, [], k - 1, late, told ++ [(token, line)]⟩ := (if_neg h1).trans (if_pos h)
theorem tt_run (h1 : c ∉ [32, 9, 13, 10, 35]) (h2 : ¬(kind ≠ 0 ∧ grown = false)) (h : kind = 1 ∨ (kind = 0 ∧ c ∈ M ∧ ¬(posix = true ∧ c = 92))) : tellTail T M posix kind token told c k late line grown = .go ⟨1, token ++ [c], k, late, told⟩ := (if_neg h1).trans ((if_neg h2).trans (if_pos h))
theorem tt_piece (h1 : c ∉ [32, 9, 13, 10, 35]) (h2 : ¬(kind ≠ 0 ∧ grown = false)) (h3 : ¬(kind = 1 ∨ (kind = 0 ∧ c ∈ M ∧ ¬(posix = true ∧ c = 92)))) (h : posix = true ∧ c ∈ [39, 34, 92]) : tellTail T M posix kind token told c k late line grown =
    if (pieceL c (T.drop k) []).2.2 ≠ 0 then .fin told (pieceL c (T.drop k) []).2.2 (if (pieceL c (T.drop k) []).2.2 = 1 then c else 92) (token ++ (pieceL c (T.drop k) []).1) (1 + T.count 10) else .go ⟨2, token ++ (pieceL c (T.drop k) []).1, T.length - (pieceL c (T.drop k) []).2.1.length, late, told⟩ :=
  (if_neg h1).trans ((if_neg h2).trans ((if_neg h3).trans (if_pos h)))
theorem tt_quote (h1 : c ∉ [32, 9, 13, 10, 35]) (h2 : ¬(kind ≠ 0 ∧ grown = false)) (h3 : ¬(kind = 1 ∨ (kind = 0 ∧ c ∈ M ∧ ¬(posix = true ∧ c = 92)))) (h4 : ¬(posix = true ∧ c ∈ [39, 34, 92])) (h : kind = 0 ∧ c ∈ [39, 34]) : tellTail T M posix kind token told c k late line grown =
    if firstAt c (T.drop k) k < 0 then .fin told 1 c (T.drop (k - 1)) (1 + T.count 10)
    else .go ⟨0, token, (firstAt c (T.drop k) k).toNat + 1, late, told ++ [((T.drop (k - 1)).take ((firstAt c (T.drop k) k).toNat + 1 - (k - 1)), 1 + (T.take (firstAt c (T.drop k) k).toNat).count 10)]⟩ :=
  (if_neg h1).trans ((if_neg h2).trans ((if_neg h3).trans ((if_neg h4).trans (if_pos h))))
theorem tt_grown (h1 : c ∉ [32, 9, 13, 10, 35]) (h2 : ¬(kind ≠ 0 ∧ grown = false)) (h3 : ¬(kind = 1 ∨ (kind = 0 ∧ c ∈ M ∧ ¬(posix = true ∧ c = 92)))) (h4 : ¬(posix = true ∧ c ∈ [39, 34, 92])) (h5 : ¬(kind = 0 ∧ c ∈ [39, 34])) (h : grown = true) :
    tellTail T M posix kind token told c k late line grown = .go ⟨2, token ++ [c], k, late, told⟩ := (if_neg h1).trans ((if_neg h2).trans ((if_neg h3).trans ((if_neg h4).trans ((if_neg h5).trans (if_pos h)))))
theorem tt_lone (h1 : c ∉ [32, 9, 13, 10, 35]) (h2 : ¬(kind ≠ 0 ∧ grown = false)) (h3 : ¬(kind = 1 ∨ (kind = 0 ∧ c ∈ M ∧ ¬(posix = true ∧ c = 92)))) (h4 : ¬(posix = true ∧ c ∈ [39, 34, 92])) (h5 : ¬(kind = 0 ∧ c ∈ [39, 34])) (h : ¬ grown = true) :
    tellTail T M posix kind token told c k late line grown = .go ⟨kind, token, k, late, told ++ [([c], line)]⟩ := (if_neg h1).trans ((if_neg h2).trans ((if_neg h3).trans ((if_neg h4).trans ((if_neg h5).trans (if_neg h)))))
theorem not_cut {a : Prop} (h : grown = true) : ¬(a ∧ grown = false) := fun q => by rw [h] at q; cases q.2
end
theorem go_if {T M : List Nat} {posix : Bool} {n : Nat} {a b : TOut} {r : Option tRes} (h : stepTo T M posix n a = r) (e : a = b) : stepTo T M posix n b = r := e ▸ h
abbrev IHyp (T M : List Nat) (posix : Bool) (n : Nat) (res : tRes) : Prop := ∀ ts' s', tellRun T M posix n ts' = some res → WF T ts' → Rel T posix ts' s' → Sim T M (Wd posix M) posix (n + 1) (toldV ts'.told) s' (tellV res)
theorem sim_piece {T M : List Nat} {n : Nat} {res : tRes} (IH : IHyp T M true n res) {token : List Nat} {m : Nat} (hm : m = 39 ∨ m = 34 ∨ m = 92) {s : RS} {p : List Nat × List Nat × Nat} (hp : Piece T M (Wd true M) token m s p) {told : List (List Nat × Nat)}
    (hrun : stepTo T M true n (if p.2.2 ≠ 0 then .fin told p.2.2 (if p.2.2 = 1 then m else 92) (token ++ p.1) (1 + T.count 10) else .go ⟨2, token ++ p.1, T.length - p.2.1.length, 0, told⟩) = some res) :
    Sim T M (Wd true M) true (n + 1) (toldV told) s (tellV res) := by
  obtain ⟨a, r, f⟩ := p
  by_cases h0 : f = 0
  · subst h0
    replace hrun := go_if hrun (if_neg (by simp))
    obtain ⟨s', g, e1, e2, e3, e4, e5, e6, _⟩ := hp.ok rfl
    refine Sim.gos g ?_
    refine IH _ _ hrun ⟨Nat.le_refl _, Nat.sub_le _ _, .inl rfl, fun h => by cases h⟩ ⟨fun h => (by cases h), fun _ => ⟨.inr ⟨rfl, e1⟩, e2, e6, e4, e3, e5⟩⟩
  · rw [if_pos h0] at hrun
    have hst : ∀ c, (c = 39 ∨ c = 34 ∨ c = 92) → stV c = .str (S [c]) := fun c h => by rcases h with rfl | rfl | rfl <;> rfl
    have hle : f ≤ 2 := hp.le
    have hres := (Option.some.inj hrun).symm
    subst hres
    rcases (by lia : f = 1 ∨ f = 2) with rfl | rfl
    · obtain ⟨s', s2, g, e1, e2, e3, e4⟩ := hp.bad rfl
      refine Sim.gos g (Sim.exc e1 _ ?_)
      rw [e2, e3, e4, hst m hm]; rfl
    · obtain ⟨s', s2, g, e1, e2, e3, e4⟩ := hp.bad2 rfl
      refine Sim.gos g (Sim.exc e1 _ ?_)
      rw [e2, e3, e4]; rfl
section
variable {T M : List Nat} {posix : Bool} {n : Nat} {res : tRes}
theorem stop_full {s1 s2 : RS} (h : fullT posix s1 = true) : stopIf (fullT posix s1) s2 = .brk s2 := by unfold stopIf; rw [if_pos h]
theorem past_no {T : List Nat} {c k late : Nat} (h : c ≠ 35) : pastC T c k late = (k, late) := by unfold pastC; rw [if_neg h]
theorem sim_mid (IH : IHyp T M posix n res) {ts : TS} {s : RS} (hk : ts.k < T.length) (w : WF T ts) (h0 : ts.kind ≠ 0) (h : MidS T posix ts s) (hrun : stepTo T M posix n (tellStep T M posix ts T[ts.k]) = some res) :
    Sim T M (Wd posix M) posix (n + 1 + 1) (toldV ts.told) s (tellV res) := by
  obtain ⟨kind, token, k, late, told⟩ := ts
  dsimp only at hk h0 hrun
  have hl0 : late = 0 := by
    rcases w.late with q | q
    · exact q
    · have q : k = T.length := q
      lia
  subst hl0
  have ht := turn_at (M := M) (W := Wd posix M) (posix := posix) (s := s) hk (.inl ⟨h.pb, h.pos⟩) h.ln
  have hfull : ∀ s' : RS, s'.tok = s.tok → s'.quoted = s.quoted → fullT posix s' = true := fun s' e1 e2 => by
    have := h.full; unfold fullT at this ⊢; rw [e1, e2]; exact this
  have htok : s.tok = token := h.tok
  generalize hc : T[k] = c at *
  by_cases hw : c ∈ [32, 9, 13, 10]
  · have h35 : c ≠ 35 := by rintro rfl; revert hw; decide
    replace hrun := go_if hrun ((step_no h35).trans (tt_ws (wsr_of hw)))
    rw [if_pos h0] at hrun
    have ht2 : lexTurn T M (Wd posix M) posix s = .brk { s with pos := k + 1, pb := [], ln := lineAt T (k + 1) 0, st := 32 } := by
      rcases h.st with ⟨_, q⟩ | ⟨_, q⟩
      · exact ht.trans ((chain_99 (by exact q)).trans ((run_ws hw).trans (stop_full (hfull _ rfl rfl))))
      · exact ht.trans ((chain_97 (by exact q)).trans ((word_ws hw).trans (stop_full (hfull _ rfl rfl))))
    exact sim_cut IH hrun ⟨Nat.zero_le _, hk, .inl rfl, fun _ => rfl⟩ rfl ht2 (hfull _ rfl rfl) htok rfl rfl rfl rfl (.inl ⟨rfl, rfl⟩)
  by_cases h35 : c = 35
  · subst h35
    obtain ⟨late', e1, e2, e3, e4, e5⟩ := past_is (T := T) (k := k + 1) hk rfl
    unfold tellStep at hrun
    dsimp only at hrun
    rw [e1] at hrun
    dsimp only at hrun
    cases posix with
    | false =>
      replace hrun := go_if hrun (if_pos ⟨rfl, rfl⟩)
      have ht2 : lexTurn T M (Wd false M) false s = .go { s with pos := pastLine T (k + 1), pb := [], ln := lineAt T (k + 1) 0 + 1 } := by
        rcases h.st with ⟨_, q⟩ | ⟨_, q⟩
        · exact ht.trans ((chain_99 (by exact q)).trans (run_hash (by decide) rfl))
        · exact ht.trans ((chain_97 (by exact q)).trans (word_hash (by decide) rfl))
      refine Sim.go ht2 (Sim.more (IH ⟨kind, token, pastLine T (k + 1), late', told⟩ _ hrun ⟨w.kind, e5, e3, fun q => absurd q h0⟩ ⟨fun q => absurd q h0, fun _ => ⟨h.st, htok, hfull _ rfl rfl, rfl, rfl, e2.symm⟩⟩))
    | true =>
      replace hrun := go_if hrun ((if_neg (by rintro ⟨_, q⟩; cases q)).trans (tt_ws (by decide)))
      rw [if_pos h0] at hrun
      have ht2 : lexTurn T M (Wd true M) true s = .brk { s with pos := pastLine T (k + 1), pb := [], ln := lineAt T (k + 1) 0 + 1, st := 32 } := by
        rcases h.st with ⟨_, q⟩ | ⟨_, q⟩
        · exact ht.trans ((chain_99 (by exact q)).trans ((run_hash (by decide) rfl).trans (stop_full (hfull _ rfl rfl))))
        · exact ht.trans ((chain_97 (by exact q)).trans ((word_hash (by decide) rfl).trans (stop_full (hfull _ rfl rfl))))
      exact sim_cut IH hrun ⟨Nat.zero_le _, e5, e3, fun _ => rfl⟩ rfl ht2 (hfull _ rfl rfl) htok e2.symm rfl rfl e2.symm (.inl ⟨rfl, rfl⟩)
  replace hrun := go_if hrun (step_no h35)
  have hwr := wsr_no hw h35
  have hc10 : c ≠ 10 := by rintro rfl; exact hw (by decide)
  have cut : ∀ {s' : RS}, lexTurn T M (Wd posix M) posix s = .brk s' → s' = { s with pos := k + 1, pb := [c], ln := lineAt T (k + 1) 0, st := 32 } → tellRun T M posix n ⟨0, [], k + 1 - 1, 0, told ++ [(token, lineAt T (k + 1) 0)]⟩ = some res → Sim T M (Wd posix M) posix (n + 1 + 1) (toldV told) s (tellV res) := fun ht2 es hrun => by
    subst es
    have e : k + 1 - 1 = k := rfl
    rw [e] at hrun
    refine sim_cut IH hrun ⟨Nat.zero_le _, Nat.le_of_lt hk, .inl rfl, fun _ => rfl⟩ rfl ht2 (hfull _ rfl rfl) htok rfl rfl rfl ?_ (.inr ⟨hk, by rw [hc], rfl, by rw [hc]; exact hc10⟩)
    show lineAt T (k + 1) 0 = _
    rw [line_next hk, hc, if_neg hc10]; rfl
  rcases h.st with ⟨q1, q2⟩ | ⟨q1, q2⟩
  · have q1 : kind = 1 := q1
    subst q1
    replace ht := ht.trans (chain_99 (by exact q2))
    by_cases hM : c ∈ M
    · replace ht := ht.trans (run_in hw h35 hM)
      have hg : grownL posix M 1 c = true := by unfold grownL; rw [if_pos rfl]; exact decide_eq_true hM
      replace hrun := go_if hrun (tt_run hwr (not_cut hg) (.inl rfl))
      refine Sim.go ht (Sim.more (IH ⟨1, token ++ [c], k + 1, 0, told⟩ _ hrun ⟨by show 1 ≤ 2; decide, hk, .inl rfl, fun q => (by cases q)⟩ ⟨fun q => (by cases q), fun _ => ⟨.inl ⟨rfl, q2⟩, by show s.tok ++ [c] = _; rw [htok], full_t (by simp), rfl, rfl, rfl⟩⟩))
    · replace ht := ht.trans (run_out hw h35 hM)
      have hg : grownL posix M 1 c = false := by unfold grownL; rw [if_pos rfl]; exact decide_eq_false hM
      replace hrun := go_if hrun (tt_cut hwr ⟨(by decide : (1 : Nat) ≠ 0), hg⟩)
      exact cut ht rfl hrun
  · have q1 : kind = 2 := q1
    subst q1
    replace ht := ht.trans (chain_97 (by exact q2))
    have hgr : grownL posix M 2 c = (inWL posix M c || decide (c ∈ if posix = true then [39, 34, 92] else [39, 34])) := by unfold grownL; rw [if_neg (by decide)]
    by_cases hqt : posix = true ∧ c ∈ [39, 34]
    · obtain ⟨rfl, hq⟩ := hqt
      replace ht := ht.trans (word_quote hw h35 ⟨rfl, hq⟩)
      have h3 := q3_of hq
      have hg : grownL true M 2 c = true := by rw [hgr, if_pos rfl, decide_eq_true h3, Bool.or_true]
      replace hrun := go_if hrun (tt_piece hwr (not_cut hg) (by rintro (q | ⟨q, _⟩) <;> cases q) ⟨rfl, h3⟩)
      have hm : c = 39 ∨ c = 34 := by simpa using hq
      exact Sim.go ht (Sim.more (sim_piece IH (hm.imp_right .inl) (quote_ok hm _ (k + 1) [] _ (Nat.le_refl _) hk rfl rfl rfl rfl (by show s.tok = _; rw [htok]; simp)) hrun))
    · by_cases h92 : posix = true ∧ c = 92
      · obtain ⟨rfl, rfl⟩ := h92
        replace ht := ht.trans (word_esc hw h35 hqt ⟨rfl, rfl⟩)
        have hg : grownL true M 2 92 = true := by rw [hgr, if_pos rfl, decide_eq_true (by decide), Bool.or_true]
        replace hrun := go_if hrun (tt_piece hwr (not_cut hg) (by rintro (q | ⟨q, _⟩) <;> cases q) ⟨rfl, by decide⟩)
        exact Sim.go ht (Sim.more (sim_piece IH (.inr (.inr rfl)) (esc_ok (s := { s with pos := k + 1, pb := [], ln := lineAt T (k + 1) 0, st := 92, esc := 97 }) (k := k + 1) hk rfl rfl rfl rfl rfl htok) hrun))
      · by_cases hW : c ∈ Wd posix M ∨ c ∈ [39, 34]
        · replace ht := ht.trans (word_in hw h35 hqt h92 hW)
          have hg : grownL posix M 2 c = true := by
            rw [hgr]
            rcases hW with q | q
            · rw [(mem_words posix M c).mp q]; rfl
            · have : c ∈ (if posix = true then [39, 34, 92] else [39, 34]) := by
                split
                · rename_i e; exact absurd ⟨e, q⟩ hqt
                · exact q
              rw [decide_eq_true this, Bool.or_true]
          have h3 : ¬ (posix = true ∧ c ∈ [39, 34, 92]) := by
            rintro ⟨e, q⟩
            simp only [List.mem_cons, List.not_mem_nil, or_false] at q
            rcases q with q | q | q
            · exact hqt ⟨e, by simp [q]⟩
            · exact hqt ⟨e, by simp [q]⟩
            · exact h92 ⟨e, q⟩
          replace hrun := go_if hrun (tt_grown hwr (not_cut hg) (by rintro (q | ⟨q, _⟩) <;> cases q) h3 (by rintro ⟨q, _⟩; cases q) hg)
          refine Sim.go ht (Sim.more (IH ⟨2, token ++ [c], k + 1, 0, told⟩ _ hrun ⟨by show 2 ≤ 2; decide, hk, .inl rfl, fun q => (by cases q)⟩ ⟨fun q => (by cases q), fun _ => ⟨.inr ⟨rfl, q2⟩, by show s.tok ++ [c] = _; rw [htok], full_t (by simp), rfl, rfl, rfl⟩⟩))
        · replace ht := ht.trans (word_out hw h35 hqt h92 hW)
          have hg : grownL posix M 2 c = false := by
            rw [hgr]
            have e1 : inWL posix M c = false := by
              cases q : inWL posix M c with
              | false => rfl
              | true => exact absurd (.inl ((mem_words posix M c).mpr q)) hW
            have e2 : c ∉ (if posix = true then [39, 34, 92] else [39, 34]) := by
              split
              · rename_i e
                intro q
                simp only [List.mem_cons, List.not_mem_nil, or_false] at q
                rcases q with q | q | q
                · exact hqt ⟨e, by simp [q]⟩
                · exact hqt ⟨e, by simp [q]⟩
                · exact h92 ⟨e, q⟩
              · exact fun q => hW (.inr q)
            rw [e1, decide_eq_false e2]; rfl
          replace hrun := go_if hrun (tt_cut hwr ⟨(by decide : (2 : Nat) ≠ 0), hg⟩)
          have ht2 : lexTurn T M (Wd posix M) posix s = .brk { s with pos := k + 1, pb := [] ++ [c], ln := lineAt T (k + 1) 0, st := 32 } := by
            exact ht.trans (stop_full (hfull _ rfl rfl))
          exact cut ht2 rfl hrun
theorem stop_not {s1 s2 : RS} (h : fullT posix s1 = false) : stopIf (fullT posix s1) s2 = .go s2 := by unfold stopIf; rw [if_neg (by rw [h]; decide)]
theorem inW_no {c : Nat} (h : c ∈ [39, 34, 92]) : inWL posix M c = false := by
  simp only [List.mem_cons, List.not_mem_nil, or_false] at h
  have e : inWL posix M c = (!decide (c ∈ M) && wordB posix c) := rfl
  have e2 : wordB posix c = false := by rcases h with rfl | rfl | rfl <;> cases posix <;> rfl
  rw [e, e2, Bool.and_false]
theorem inW_M {c : Nat} (h : inWL posix M c = true) : c ∉ M := by
  have e : inWL posix M c = (!decide (c ∈ M) && wordB posix c) := rfl
  rw [e, Bool.and_eq_true] at h
  simpa using h.1
theorem sim_top (IH : IHyp T M posix n res) {ts : TS} {s : RS} (hk : ts.k < T.length) (w : WF T ts) (h0 : ts.kind = 0) (h : TopS T ts s) (hrun : stepTo T M posix n (tellStep T M posix ts T[ts.k]) = some res) :
    Sim T M (Wd posix M) posix (n + 1 + 1) (toldV ts.told) s (tellV res) := by
  have htk := w.tok h0
  obtain ⟨kind, token, k, late, told⟩ := ts
  dsimp only at hk h0 hrun htk
  subst h0 htk
  have hl0 : late = 0 := by
    rcases w.late with q | q
    · exact q
    · have q : k = T.length := q
      lia
  subst hl0
  have hat : (s.pb = [] ∧ s.pos = k) ∨ (s.pb = [T[k]] ∧ s.pos = k + 1 ∧ T[k] ≠ 10) := by
    rcases h.at_ with q | ⟨_, q⟩
    · exact .inl q
    · exact .inr q
  have ht := turn_at (M := M) (W := Wd posix M) (posix := posix) (s := s) hk hat h.ln
  have ht := ht.trans (chain_32 (by exact h.st))
  have htok : s.tok = [] := h.tok
  have hq : s.quoted = false := h.q
  have hfull : ∀ s' : RS, s'.tok = s.tok → s'.quoted = s.quoted → fullT posix s' = false := fun s' e1 e2 => by
    unfold fullT; rw [e1, e2, htok, hq]; simp
  generalize hc : T[k] = c at *
  by_cases hw : c ∈ [32, 9, 13, 10]
  · have h35 : c ≠ 35 := by rintro rfl; revert hw; decide
    replace hrun := go_if hrun ((step_no h35).trans (tt_ws (wsr_of hw)))
    have ht2 : lexTurn T M (Wd posix M) posix s = .go { s with pos := k + 1, pb := [], ln := lineAt T (k + 1) 0 } := by
      exact ht.trans ((nil_ws hw).trans (stop_not (hfull _ rfl rfl)))
    exact Sim.go ht2 (Sim.more (IH ⟨0, [], k + 1, 0, told⟩ _ hrun ⟨Nat.zero_le _, hk, .inl rfl, fun _ => rfl⟩ ⟨fun _ => ⟨h.st, htok, hq, rfl, .inl ⟨rfl, rfl⟩⟩, fun q => absurd rfl q⟩))
  by_cases h35 : c = 35
  · subst h35
    obtain ⟨late', e1, e2, e3, e4, e5⟩ := past_is (T := T) (k := k + 1) hk rfl
    unfold tellStep at hrun
    dsimp only at hrun
    rw [e1] at hrun
    dsimp only at hrun
    replace ht := ht.trans (nil_hash (by decide) rfl)
    have hrun2 : tellRun T M posix n ⟨0, [], pastLine T (k + 1), late', told⟩ = some res := by
      cases posix with
      | false => exact go_if hrun (if_pos ⟨rfl, rfl⟩)
      | true => exact go_if hrun ((if_neg (by rintro ⟨_, q⟩; cases q)).trans (tt_ws (by decide)))
    exact Sim.go ht (Sim.more (IH ⟨0, [], pastLine T (k + 1), late', told⟩ _ hrun2 ⟨Nat.zero_le _, e5, e3, fun _ => rfl⟩ ⟨fun _ => ⟨h.st, htok, hq, e2.symm, .inl ⟨rfl, rfl⟩⟩, fun q => absurd rfl q⟩))
  replace hrun := go_if hrun (step_no h35)
  have hwr := wsr_no hw h35
  have hn0 : ∀ {b : Bool}, ¬(0 ≠ 0 ∧ b = false) := fun q => q.1 rfl
  have hgr : grownL posix M 0 c = (inWL posix M c || decide (c ∈ if posix = true then [39, 34, 92] else [39, 34])) := by unfold grownL; rw [if_neg (by decide)]
  by_cases h92 : posix = true ∧ c = 92
  · obtain ⟨rfl, rfl⟩ := h92
    replace ht := ht.trans (nil_esc hw h35 ⟨rfl, rfl⟩)
    replace hrun := go_if hrun (tt_piece hwr hn0 (by rintro (q | ⟨_, _, q⟩); (cases q); (exact q ⟨rfl, rfl⟩)) ⟨rfl, by decide⟩)
    exact Sim.go ht (Sim.more (sim_piece IH (.inr (.inr rfl)) (esc_ok (s := { s with pos := k + 1, pb := [], ln := lineAt T (k + 1) 0, st := 92, esc := 97 }) (k := k + 1) hk rfl rfl rfl rfl rfl htok) hrun))
  by_cases hW : c ∈ Wd posix M
  · replace ht := ht.trans (nil_word hw h35 h92 hW)
    have hi := (mem_words posix M c).mp hW
    have h3 : c ∉ [39, 34, 92] := fun q => by rw [inW_no q] at hi; cases hi
    have h2 : c ∉ [39, 34] := fun q => h3 (q3_of q)
    have hg : grownL posix M 0 c = true := by rw [hgr, hi]; rfl
    replace hrun := go_if hrun (tt_grown hwr hn0 (by rintro (q | ⟨_, q, _⟩); (cases q); (exact inW_M hi q)) (fun q => h3 q.2) (fun q => h2 q.2) hg)
    exact Sim.go ht (Sim.more (IH ⟨2, [] ++ [c], k + 1, 0, told⟩ _ hrun ⟨by show 2 ≤ 2; decide, hk, .inl rfl, fun q => (by cases q)⟩ ⟨fun q => (by cases q), fun _ => ⟨.inr ⟨rfl, rfl⟩, rfl, full_t (by simp), rfl, rfl, rfl⟩⟩))
  have hi : inWL posix M c = false := by
    cases q : inWL posix M c with
    | false => rfl
    | true => exact absurd ((mem_words posix M c).mpr q) hW
  by_cases hM : c ∈ M
  · replace ht := ht.trans (nil_run hw h35 h92 hW hM)
    replace hrun := go_if hrun (tt_run hwr hn0 (.inr ⟨rfl, hM, h92⟩))
    exact Sim.go ht (Sim.more (IH ⟨1, [] ++ [c], k + 1, 0, told⟩ _ hrun ⟨by show 1 ≤ 2; decide, hk, .inl rfl, fun q => (by cases q)⟩ ⟨fun q => (by cases q), fun _ => ⟨.inl ⟨rfl, rfl⟩, rfl, full_t (by simp), rfl, rfl, rfl⟩⟩))
  have hnr : ¬((0 : Nat) = 1 ∨ ((0 : Nat) = 0 ∧ c ∈ M ∧ ¬(posix = true ∧ c = 92))) := by rintro (q | ⟨_, q, _⟩); (cases q); (exact hM q)
  by_cases hqt : c ∈ [39, 34]
  · replace ht := ht.trans (nil_quote hw h35 h92 hW hM hqt)
    have hm : c = 39 ∨ c = 34 := by simpa using hqt
    cases posix with
    | true =>
      have h3 := q3_of hqt
      replace hrun := go_if hrun (tt_piece hwr hn0 hnr ⟨rfl, h3⟩)
      rw [if_pos rfl] at ht
      exact Sim.go ht (Sim.more (sim_piece IH (hm.imp_right .inl) (quote_ok (base := []) hm _ (k + 1) [] _ (Nat.le_refl _) hk rfl rfl rfl rfl (by show s.tok = _; rw [htok]; rfl)) hrun))
    | false =>
      replace hrun := go_if hrun (tt_quote hwr hn0 hnr (by rintro ⟨q, _⟩; cases q) ⟨rfl, hqt⟩)
      rw [if_neg (by decide)] at ht
      obtain ⟨i1, i2⟩ := nq_ok (T := T) (M := M) (W := Wd false M) hm _ (k + 1) [c] { s with pos := k + 1, pb := [], ln := lineAt T (k + 1) 0, tok := [c], st := c } (Nat.le_refl _) hk rfl rfl rfl rfl rfl
      have hdr : T.drop k = c :: T.drop (k + 1) := by rw [drop_at hk, hc]
      have hst : stV c = .str (S [c]) := by rcases hm with rfl | rfl <;> rfl
      rcases firstAt_spec c (T.drop (k + 1)) (k + 1) with ⟨e, _⟩ | ⟨j, e, ej, _⟩
      · replace hrun := go_if hrun (if_pos (by rw [e]; decide))
        have hres := (Option.some.inj hrun).symm
        subst hres
        obtain ⟨s', s2, g, a1, a2, a3, a4⟩ := i1 e
        refine Sim.go ht (Sim.gos g (Sim.more (Sim.exc a1 _ ?_)))
        rw [a2, a3, a4, hst]
        have : k + 1 - 1 = k := rfl
        rw [this, hdr]; rfl
      · replace hrun := go_if hrun (if_neg (by rw [e]; lia))
        obtain ⟨s', s2, g, a1, a2, a3, a4, a5, a6, a7, a8⟩ := i2 _ e
        rw [e] at hrun
        have e3 : (((k + 1 + j : Nat) : Int)).toNat = k + 1 + j := by lia
        rw [e3] at hrun
        have e4 : k + 1 - 1 = k := rfl
        rw [e4] at hrun
        have etok : s2.tok = (T.drop k).take (k + 1 + j + 1 - k) := by
          rw [a3, hdr]
          have : k + 1 + j + 1 - k = (k + 1 + j + 1 - (k + 1)) + 1 := by lia
          rw [this, List.take_succ_cons]; rfl
        refine Sim.go ht (Sim.gos g ?_)
        refine sim_cut IH (ts' := ⟨0, [], k + 1 + j + 1, 0, _⟩) hrun ⟨Nat.zero_le _, by show k + 1 + j + 1 ≤ _; lia, .inl rfl, fun _ => rfl⟩ rfl a1 (full_t (by rw [a3]; simp)) etok a4 rfl a2 ?_ (.inl ⟨a6, a5⟩)
        rw [a4]
        show _ = lineAt T (k + 1 + j + 1) 0
        have hT : T[k + 1 + j] = c := by
          rw [List.getElem?_drop, List.getElem?_eq_getElem a8] at ej
          exact Option.some.inj ej
        rw [line_next a8, hT, if_neg (by rcases hm with rfl | rfl <;> decide)]; rfl
  · replace ht := ht.trans (nil_lone hw h35 h92 hW hM hqt)
    have h3 : ¬ (posix = true ∧ c ∈ [39, 34, 92]) := by
      rintro ⟨e, q⟩
      simp only [List.mem_cons, List.not_mem_nil, or_false] at q hqt
      rcases q with q | q | q
      · exact hqt (.inl q)
      · exact hqt (.inr q)
      · exact h92 ⟨e, q⟩
    have hg : grownL posix M 0 c = false := by
      rw [hgr, hi]
      have : c ∉ (if posix = true then [39, 34, 92] else [39, 34]) := by
        split
        · rename_i e; exact fun q => h3 ⟨e, q⟩
        · exact hqt
      rw [decide_eq_false this]; rfl
    replace hrun := go_if hrun (tt_lone hwr hn0 hnr h3 (fun q => hqt q.2) (by rw [hg]; decide))
    exact sim_cut IH (ts' := ⟨0, [], k + 1, 0, _⟩) hrun ⟨Nat.zero_le _, hk, .inl rfl, fun _ => rfl⟩ rfl ht (full_t (by simp)) rfl rfl rfl h.st rfl (.inl ⟨rfl, rfl⟩)
end
theorem run_step (T M : List Nat) (posix : Bool) (n : Nat) (ts : TS) (h : ts.k < T.length) : tellRun T M posix (n + 1) ts = stepTo T M posix n (tellStep T M posix ts T[ts.k]) := by
  rw [tellRun.eq_2, dif_pos h]
  cases tellStep T M posix ts T[ts.k] <;> rfl
theorem run_end (T M : List Nat) (posix : Bool) (n : Nat) (ts : TS) (h : ¬ ts.k < T.length) : tellRun T M posix (n + 1) ts = some (if ts.kind ≠ 0 then ts.told ++ [(ts.token, 1 + T.count 10 + ts.late)] else ts.told, none, 1 + T.count 10 + ts.late) := by
  rw [tellRun.eq_2, dif_neg h]
theorem sim_all {T M : List Nat} {posix : Bool} : ∀ (n : Nat) (ts : TS) (res : tRes) (s : RS), tellRun T M posix n ts = some res → WF T ts → Rel T posix ts s → Sim T M (Wd posix M) posix (n + 1) (toldV ts.told) s (tellV res)
  | 0, _, _, _, h, _, _ => by cases h
  | n + 1, ts, res, s, h, w, r => by
    have IH : IHyp T M posix n res := fun ts' s' h' w' r' => sim_all n ts' res s' h' w' r'
    by_cases hk : ts.k < T.length
    · rw [run_step T M posix n ts hk] at h
      by_cases h0 : ts.kind = 0
      · exact sim_top IH hk w h0 (r.1 h0) h
      · exact sim_mid IH hk w h0 (r.2 h0) h
    · rw [run_end T M posix n ts hk] at h
      have h := (Option.some.inj h).symm
      subst h
      exact sim_end (n := n + 1) (by have := w.k; lia) w r
abbrev Gd (l : List Nat) : Prop := ∀ c ∈ l, c < 1114112
theorem Gd.app {a b : List Nat} (ha : Gd a) (hb : Gd b) : Gd (a ++ b) := fun c h => (List.mem_append.mp h).elim (ha c) (hb c)
theorem gd_piece {m : Nat} : ∀ (n : Nat) (r a : List Nat), r.length ≤ n → Gd r → Gd a → Gd (pieceL m r a).1 := by
  intro n
  induction n with
  | zero =>
    intro r a hn _ ha
    cases r with
    | nil => unfold pieceL; exact ha
    | cons c r => simp at hn
  | succ n ih =>
    intro r a hn hr ha
    cases r with
    | nil => unfold pieceL; exact ha
    | cons c r =>
      have hc := hr c (.head _)
      have hr' : Gd r := fun x h => hr x (.tail _ h)
      simp only [List.length_cons] at hn
      unfold pieceL
      split
      · intro x hx; simp only [List.mem_singleton] at hx; subst hx; exact hc
      split
      · exact ha
      split
      · cases r with
        | nil => exact ha
        | cons d r' =>
          simp only [List.length_cons] at hn
          have hd := hr' d (.head _)
          refine ih r' _ (by lia) (fun x h => hr' x (.tail _ h)) (ha.app ?_)
          split
          · intro x hx; simp only [List.mem_singleton] at hx; subst hx; exact hd
          · intro x hx; simp only [List.mem_cons, List.not_mem_nil, or_false] at hx
            rcases hx with rfl | rfl
            · decide
            · exact hd
      · exact ih r _ (by lia) hr' (ha.app fun x hx => by simp only [List.mem_singleton] at hx; subst hx; exact hc)
def GdT (l : List (List Nat × Nat)) : Prop := ∀ x ∈ l, Gd x.1
theorem GdT.add {l : List (List Nat × Nat)} {t : List Nat} {k : Nat} (h : GdT l) (ht : Gd t) : GdT (l ++ [(t, k)]) := fun x hx => by
  rcases List.mem_append.mp hx with hx | hx
  · exact h x hx
  · simp only [List.mem_singleton] at hx; subst hx; exact ht
noncomputable def GdO : TOut → Prop
  | .go s => Gd s.token ∧ GdT s.told
  | .fin td _ cc tk _ => GdT td ∧ cc < 1114112 ∧ Gd tk
theorem gd_step {T M : List Nat} {posix : Bool} (hT : Gd T) {ts : TS} (h1 : Gd ts.token) (h2 : GdT ts.told) {c : Nat} (hc : c < 1114112) : GdO (tellStep T M posix ts c) := by
  have hc1 : Gd [c] := fun x hx => by simp only [List.mem_singleton] at hx; subst hx; exact hc
  have hnil : Gd [] := fun x hx => by cases hx
  have hd : ∀ k, Gd (T.drop k) := fun k x hx => hT x (List.mem_of_mem_drop hx)
  unfold tellStep
  dsimp only
  split
  · exact ⟨h1, h2⟩
  unfold tellTail
  split
  · refine ⟨hnil, ?_⟩
    dsimp only
    split
    · exact h2.add h1
    · exact h2
  split
  · exact ⟨hnil, h2.add h1⟩
  split
  · exact ⟨h1.app hc1, h2⟩
  split
  · have hp := gd_piece (m := c) _ (T.drop (pastC T c (ts.k + 1) ts.late).1) [] (Nat.le_refl _) (hd _) hnil
    split
    · refine ⟨h2, ?_, h1.app hp⟩
      split
      · exact hc
      · decide
    · exact ⟨h1.app hp, h2⟩
  split
  · split
    · exact ⟨h2, hc, hd _⟩
    · exact ⟨h1, h2.add fun x hx => hd _ x (List.mem_of_mem_take hx)⟩
  split
  · exact ⟨h1.app hc1, h2⟩
  · exact ⟨h1, h2.add hc1⟩
theorem str_ok {l : List Nat} (h : Gd l) : PyData.strOk (S l) = true := by
  unfold PyData.strOk
  rw [← Array.all_toList]
  exact List.all_eq_true.mpr fun x hx => decide_eq_true (h x hx)
theorem kqd_told {l : List (List Nat × Nat)} (h : GdT l) : (toldV l).all (kqdOk 3) = true := by
  refine List.all_eq_true.mpr fun x hx => ?_
  obtain ⟨y, hy, rfl⟩ := List.mem_map.mp hx
  show ([Dat.str (S y.1), Dat.int (y.2 : Int)].all (kqdOk 2)) = true
  have e : kqdOk 2 (Dat.str (S y.1)) = true := str_ok (h y hy)
  simp only [List.all_cons, List.all_nil, Bool.and_true, e]; rfl
theorem gd_run {T M : List Nat} {posix : Bool} (hT : Gd T) : ∀ (n : Nat) (ts : TS) (res : tRes), tellRun T M posix n ts = some res → Gd ts.token → GdT ts.told → kqdOk 5 (tellV res) = true
  | 0, _, _, h, _, _ => by cases h
  | n + 1, ts, res, h, h1, h2 => by
    by_cases hk : ts.k < T.length
    · rw [run_step T M posix n ts hk] at h
      have hg := gd_step (M := M) (posix := posix) hT h1 h2 (hT _ (List.getElem_mem hk))
      cases e : tellStep T M posix ts T[ts.k] with
      | go s' => rw [e] at h hg; exact gd_run hT n s' res h hg.1 hg.2
      | fin td wd cc tk ln =>
        rw [e] at h hg
        have h := (Option.some.inj h).symm
        subst h
        obtain ⟨g1, g2, g3⟩ := hg
        show ([Dat.list (toldV td), Dat.tuple [Dat.str (faultS wd), Dat.str (S [cc]), Dat.str (S tk), Dat.int (ln : Int)]].all (kqdOk 4)) = true
        have a1 : kqdOk 4 (Dat.list (toldV td)) = true := kqd_told g1
        have a2 : kqdOk 3 (Dat.str (S [cc])) = true := str_ok fun x hx => by simp only [List.mem_singleton] at hx; subst hx; exact g2
        have a3 : kqdOk 3 (Dat.str (S tk)) = true := str_ok g3
        have a4 : kqdOk 3 (Dat.str (faultS wd)) = true := by
          unfold faultS; split <;> kernel_rfl
        have a5 : kqdOk 4 (Dat.tuple [Dat.str (faultS wd), Dat.str (S [cc]), Dat.str (S tk), Dat.int (ln : Int)]) = true := by
          show ([Dat.str (faultS wd), Dat.str (S [cc]), Dat.str (S tk), Dat.int (ln : Int)].all (kqdOk 3)) = true
          simp only [List.all_cons, List.all_nil, Bool.and_true, a2, a3, a4]; rfl
        simp only [List.all_cons, List.all_nil, Bool.and_true, a1, a5]
    · rw [run_end T M posix n ts hk] at h
      have h := (Option.some.inj h).symm
      subst h
      have g1 : GdT (if ts.kind ≠ 0 then ts.told ++ [(ts.token, 1 + T.count 10 + ts.late)] else ts.told) := by
        split
        · exact h2.add h1
        · exact h2
      show ([Dat.list (toldV _), Dat.tuple [Dat.str _, Dat.none, Dat.str _, Dat.int _]].all (kqdOk 4)) = true
      have a1 : kqdOk 4 (Dat.list (toldV (if ts.kind ≠ 0 then ts.told ++ [(ts.token, 1 + T.count 10 + ts.late)] else ts.told))) = true := kqd_told g1
      simp only [List.all_cons, List.all_nil, Bool.and_true, a1]
      kernel_rfl
theorem run_total {T M : List Nat} {posix : Bool} : ∀ m (s : TS), TInv T s → tMeas T s < m → ∃ x, tellRun T M posix m s = some x
  | 0, _, _, h => by omega
  | m + 1, s, hs, hm => by
    by_cases hk : s.k < T.length
    · rw [run_step T M posix m s hk]
      cases e : tellStep T M posix s T[s.k] with
      | go s' =>
        have hi := tellStep_inv hs hk e
        exact run_total m s' hi.1 (by have := hi.2; omega)
      | fin td wd cc tk ln => exact ⟨_, rfl⟩
    · rw [run_end T M posix m s hk]; exact ⟨_, rfl⟩
theorem plain_of {T M : List Nat} {posix : Bool} (hT : T.length ≤ 100) (hG : Gd T) : Plain T M posix := by
  obtain ⟨x, hx⟩ := run_total (T := T) (M := M) (posix := posix) 400 ⟨0, [], 0, 0, []⟩ ⟨by simp, fun _ => rfl, by simp, by simp⟩ (by unfold tMeas; simp; omega)
  obtain ⟨fin, ha, he⟩ := sim_all 400 ⟨0, [], 0, 0, []⟩ x rs0 hx ⟨Nat.zero_le _, Nat.zero_le _, .inl rfl, fun _ => rfl⟩ ⟨fun _ => ⟨rfl, rfl, rfl, by unfold lineAt; simp [rs0], .inl ⟨rfl, rfl⟩⟩, fun h => absurd rfl h⟩
  have e : tellOf T M posix = x := by unfold tellOf; rw [hx]; rfl
  refine ⟨fin, all_fin (n := 401) (by decide) ha, by rw [he, e], ?_⟩
  rw [he]
  exact gd_run hG 400 _ x hx (fun _ h => by cases h) (fun _ h => by cases h)
theorem gd_sign (x : Int) : Gd (signL x) := by
  unfold signL
  split
  · intro c hc
    simp only [List.mem_singleton] at hc
    subst hc
    have : ∀ i : Fin 28, signLit.getD i.val 0 < 1114112 := by decide
    have h2 : ∀ l : List Nat, (∀ y ∈ l, y < 1114112) → ∀ i, l.getD i 0 < 1114112 := fun l hl i => by
      rw [List.getD_eq_getElem?_getD]
      cases e : l[i]? with
      | none => simp
      | some y => exact hl y (List.mem_of_getElem? e)
    exact h2 signLit (by decide) _
  · split
    · intro c hc; cases hc
    · intro c hc
      simp only [List.mem_singleton] at hc
      subst hc
      have h1 := Int.fmod_nonneg_of_pos (x.fdiv 32) (b := 1114112 - 2048) (by decide)
      have h2 := Int.fmod_lt_of_pos (x.fdiv 32) (b := 1112064) (by decide)
      split <;> omega
theorem gd_text (ns : List Int) : Gd (textL ns) := fun c hc => by
  unfold textL at hc
  obtain ⟨l, hl, hc⟩ := List.mem_flatten.mp hc
  obtain ⟨k, _, rfl⟩ := List.mem_map.mp hl
  exact gd_sign _ c hc
theorem plain_all (ns : List Int) (h : ns.length ≤ 60) : Plain (textL ns) (marksL ns) (posixL ns) := plain_of (text_len h) (gd_text ns)
section
set_option tactic.hygienic true
noncomputable def runG (thr ok : Thread → Bool) (stp : SharedT → Thread → Option (SharedT × Thread)) : Nat → SharedT → Thread → Option SharedT
  | 0, _, _ => none
  | n + 1, s, t => match thr t with
    | true => some s
    | false => match ok t with
      | false => none
      | true => match stp s t with
        | some (s', t') => runG thr ok stp n s' t'
        | none => none
theorem runG_spec {tb : String → Option Builtin} {p : Program} {w : World} {n₀ : Nat} {ann : Option Value} : ∀ {n : Nat} {s s' : SharedT} {t : Thread},
    runG through (stepOk n₀ ann) (stepT (denote tb) p w) n s t = some s' → topRun tb p w n₀ ann n s.abs t = some s'.abs
  | 0, _, _, _, h => by cases h
  | n + 1, s, s', t, h => by
    unfold runG at h
    unfold topRun
    cases ht : through t with
    | true => rw [ht] at h; cases h; rfl
    | false =>
      rw [ht] at h
      cases hk : stepOk n₀ ann t with
      | false => rw [hk] at h; cases h
      | true =>
        rw [hk] at h
        cases hs : stepT (denote tb) p w s t with
        | none => rw [hs] at h; cases h
        | some r =>
          obtain ⟨s₂, t₂⟩ := r
          rw [hs] at h
          rw [stepT_spec hs]
          exact runG_spec h
noncomputable def treeOf (os : List Obj) : BT × Nat := os.foldl (fun (t, n) o => (t.ins n o, n + 1)) (.nil, 0)
noncomputable def treeOk (os : List Obj) : Bool := (os.foldl (fun (x : BT × Nat × Bool) o => (x.1.ins x.2.1 o, x.2.1 + 1, x.2.2 && ((x.1.ins x.2.1 o).get x.2.1).isSome)) (BT.nil, 0, true)).2.2
noncomputable def H02 : Hook := kHook KS AS (fun _ => by kernel_rfl)
theorem treeOf_ok (life : Life) : ∀ (os : List Obj) (t : BT) (n : Nat) (b : Bool) (pre : Array Obj), absHeap t n life = ⟨pre, life⟩ →
    (os.foldl (fun (x : BT × Nat × Bool) o => (x.1.ins x.2.1 o, x.2.1 + 1, x.2.2 && ((x.1.ins x.2.1 o).get x.2.1).isSome)) (t, n, b)).2.2 = true →
    absHeap (os.foldl (fun (x : BT × Nat) o => (x.1.ins x.2 o, x.2 + 1)) (t, n)).1 (os.foldl (fun (x : BT × Nat) o => (x.1.ins x.2 o, x.2 + 1)) (t, n)).2 life = ⟨pre ++ os.toArray, life⟩
  | [], t, n, b, pre, h, _ => by simpa using h
  | o :: os, t, n, b, pre, h, hk => by
    simp only [List.foldl_cons] at hk ⊢
    have mono : ∀ (l : List Obj) (t : BT) (n : Nat) (b : Bool), (l.foldl (fun (x : BT × Nat × Bool) o => (x.1.ins x.2.1 o, x.2.1 + 1, x.2.2 && ((x.1.ins x.2.1 o).get x.2.1).isSome)) (t, n, b)).2.2 = true → b = true := by
      intro l
      induction l with
      | nil => intro t n b h; exact h
      | cons o l ih => intro t n b h; simp only [List.foldl_cons] at h; have := ih _ _ _ h; simp only [Bool.and_eq_true] at this; exact this.1
    have hb := mono _ _ _ _ hk
    simp only [Bool.and_eq_true] at hb
    have := treeOf_ok life os (t.ins n o) (n + 1) _ (pre.push o) (by rw [absHeap_ins hb.2, h]; rfl) hk
    rw [this]
    simp
noncomputable def H0look (p : Program) (w : World) (s0 : Shared) (M : Nat) {α : Type} (thr ok : Thread → Bool) (stp : SharedT → Thread → Option (SharedT × Thread)) (fin : Shared → α) : Bool × Option α :=
  (s0.heap.isNs mainGlobals && s0.gens.size == 0 && treeOk s0.heap.objs.toList,
    (runG thr ok stp M ⟨(treeOf s0.heap.objs.toList).1, (treeOf s0.heap.objs.toList).2, s0.heap.life, s0.gens, s0.drawn, s0.toks, s0.os⟩ (topStub p)).map fun sT => fin sT.abs)
theorem left_of {p q : Program} {loose : List Str} {Xt : Shared → Bool} {α : Type} {Yf : Shared → α} {Ya : World → α} {N M : Nat} (le : Nat.ble M N = true)
    (big : ∀ w : World, ((importEnds treeTable (opening p) w N (start (opening p)).1 (start (opening p)).2).bind (fenceModules? p)).map (fun s0 =>
      H0look p w s0 M through (stepOk s0.heap.objs.size (s0.heap.nsMap mainGlobals "__annotations__")) (stepT (denote treeTable) p w) fun s₁ =>
        (staticsOk (importedModules p.main.body) s0.heap s₁.heap && namesBound p s₁.heap && gensDone s₁ && laidKept s0.heap s₁.heap, openSeen q loose (importedModules p.main.body) Xt true s₁, Yf s₁)) =
      some (true, some (true, openGood q loose, Ya w))) : LeftO p q loose Xt Yf Ya N := fun w => by
  obtain ⟨s0, h0, h1⟩ := Option.map_eq_some_iff.mp (big w)
  obtain ⟨h2, h3⟩ := Prod.mk.inj h1
  simp only [Bool.and_eq_true] at h2
  obtain ⟨sT, h4, h5⟩ := Option.map_eq_some_iff.mp h3
  obtain ⟨h6, h7⟩ := Prod.mk.inj h5
  have eT := treeOf_ok s0.heap.life s0.heap.objs.toList .nil 0 true #[] (by rfl) h2.2
  have hr := runG_spec h4
  have eA : SharedT.abs ⟨(treeOf s0.heap.objs.toList).1, (treeOf s0.heap.objs.toList).2, s0.heap.life, s0.gens, s0.drawn, s0.toks, s0.os⟩ = s0 := by
    obtain ⟨⟨objs, life⟩, gens, drawn, toks, os⟩ := s0
    unfold SharedT.abs treeOf
    simp only at eT ⊢
    rw [eT]
    simp
  rw [eA] at hr
  have hr' := topRun_mono (N - M) _ _ _ _ hr
  rw [show M + (N - M) = N by have := Nat.le_of_ble_eq_true le; omega] at hr'
  unfold openEnds fencedOpening
  rw [h0]
  show (topFrom treeTable p w N s0).map _ = _
  unfold topFrom
  rw [Bool.and_eq_true_iff.mpr h2.1]
  dsimp only
  rw [hr']
  show ((match staticsOk (importedModules p.main.body) s0.heap sT.abs.heap && namesBound p sT.abs.heap && gensDone sT.abs && laidKept s0.heap sT.abs.heap with | true => some sT.abs | false => none) : Option Shared).map _ = _
  rw [h6]
  exact congrArg some h7
noncomputable def q02 : Program := view Challenge.pw_in0035_02 [0, 25]
noncomputable def loose02 : List Str := [ofString "_wall", ofString "__name__", ofString "_whence", ofString "_index", ofString "UnsupportedOperation", ofString "IOBase", ofString "BufferedIOBase",
  ofString "TextIOBase", ofString "BytesIO", ofString "StringIO", ofString "_kind", ofString "_fspath", ofString "_check_arg_types", ofString "isabs", ofString "join", ofString "dirname", ofString "shlex",
  ofString "_law_sign", ofString "_law_in_word", ofString "_law_piece", ofString "_law_tell"]
noncomputable def Xt02 : Shared → Bool := fun s => xlAt q02 [] s && recOk (RowW.records Challenge.rw_in0035_02.row.toRowW) s
theorem left02 : LeftO Challenge.pw_in0035_02 q02 loose02 Xt02 (Hook.obs H02) (Hook.val H02) 9834 := by
  refine left_of (M := 4900) (by decide) fun w => ?_
  rw [Fast.te10274390034422433532, Fast.te1435165496053646825, Fast.te14289696077712309145, Fast.te10156331382660048174, Fast.te11892475500146522536, Fast.te14364793385576792824, Fast.te6613529449190102663, Fast.te4187177175401517315, Fast.te5923862056798008813]
  kernel_rfl
end
section
set_option tactic.hygienic true
theorem At.bare {O : Type} {C : Cx O} {o : O} {ρ : Loc} {fz : Led} {s : Shared} (h : At C o ρ fz s) (hρ : scalR ρ) : At (trivCx C.s₀ C.h₀ C.L) () ρ [] s := by
  obtain ⟨hp, tk, m, R, rfl, F, N, rp, ap, lc, rf⟩ := h
  refine ⟨hp, tk, m, [], rfl, F, fun q hq => (by cases hq), rfl, fun q hq => (by cases hq), fun x v hx => ?_, fun q hq => (by cases hq)⟩
  obtain ⟨v', e1, e2⟩ := lc x v hx
  exact ⟨v', e1, vr_scal (hρ x v hx) e2⟩
noncomputable def dL : DefRec := { name := ofString "law", params := fpar (stAt 25), body := fbody (stAt 25), scope := fscope (stAt 25), pos := { line := 791, col := 0, endLine := 809, endCol := 99 } }
set_option maxHeartbeats 4000000 in
theorem walk02 (hplain : ∀ ns : List Int, ns.length ≤ 60 → Plain (textL ns) (marksL ns) (posixL ns)) : WalkO q02 loose02 (XL q02 []) H02.says PySem.Challenge.rw_in0035_02.row.toRowW dL [] (fun f vs => call f vs) := by
  k_fill
  intro w s₀ s₁ mg mb G Y fa o pm cd doc dV kV ho hd hcd hD hmg hg args vals as hpre hlay hrd hwl hlo
  have KX := kIn_of Y
  have X := (Ground.X G).1
  have V := (Ground.X G).2
  refine Ground.open G ?_
  intro T B D TE TW
  try (refine guard_noD D (by decide +kernel) ?_; clear D)
  obtain ⟨_, _, M⟩ := bmod_of_top T
  have TA := at_of_top T
  try (obtain ⟨_, _, he, B0⟩ := based_of_top T rfl hmg ho hd; have he' : cd = _ := he; subst he'; clear he)
  clear hmg
  wrow_args hpre hlay hrd hwl hlo
  all_goals (
    first | refine callC_kw (enter_call ?_) | refine enter_call ?_ | refine callC_kw (enter_callW ?_) | refine enter_callW ?_ | w_how
    w_top on
    try refine codeAny_mono ?_ (fun _ _ g => GoodW.toG g)
    have K0 := below_caller (Top.heap T)
    w_call any ho hd hcd hD T F
    clear hd TA
    k_drop
    skip)
  rename Below callerA _ [] _ => K0
  rename Top q02 _ _ _ _ _ => T
  rename (KS _).In _ => KX
  rename Fr _ _ _ _ => F
  rename News _ _ _ _ => N0
  rename IntsAre _ _ => hI
  rename Heap.IsList _ _ _ => hL
  rename ¬ (_ < _) => hcond
  rename_i w11 w10 w9 w8 ns hs hlay0 hL1 hr1 hl2 w6 w5 l vs w2 ra w1 r0 hr hc2 h₁ tk₁ ob on left right X0
  have env0 : envOfC dL.name dL.scope s₁.heap.objs.size fa (Value.ref w9) = lwE s₁.heap.objs.size fa (.ref w9) := rfl
  have R : Rim (KS w.params) q02 (looseW q02 loose02) (ExcName.means s₀.heap) mg mb callerA s₁.heap [] (callerA.deeper (lwE s₁.heap.objs.size fa (.ref w9))) (lwE s₁.heap.objs.size fa (.ref w9)) s₁.heap s₁.heap.objs.size 20 := by
    refine ⟨K0, KX, T, rfl, rfl, by kernel_rfl, rfl, rfl, rfl, rfl, inter_off (by kernel_rfl), ?_⟩
    show callerA.depth + 1 + 20 ≤ recursionLimit
    decide
  have hun : (callerA.deeper (lwE s₁.heap.objs.size fa (.ref w9))).units + 64 < cLine := by
    show callerA.units + 3 + 64 < cLine
    decide
  have hlen : ns.length ≤ 63 := by have := hcond; lia
  show wpAny _ (callerA.deeper (lwE s₁.heap.objs.size fa (.ref w9))) (execs lwB (lwE s₁.heap.objs.size fa (.ref w9))) _ _ _
  have hA : At (lawCx s₁ s₁.heap s₁.heap.objs.size [] (lwR l)) ⟨none, none⟩ [] [] { s₁ with heap := h₁, toks := tk₁ } := by
    refine ⟨h₁, tk₁, _, [(s₁.heap.objs.size + 2, ob), (s₁.heap.objs.size + 1, on)], rfl, F, fun q hq => ?_, ⟨ob, on, rfl, right.trans (by kernel_rfl), left.trans (by kernel_rfl)⟩, fun q _ r hr => (by cases hr), fun x v hx => (by cases hx), fun q hq => ?_⟩
    · have hq : q ∈ [(s₁.heap.objs.size + 2, ob), (s₁.heap.objs.size + 1, on)] ++ ([] ++ []) := hq
      simp only [List.append_nil] at hq
      exact N0 q hq
    · have hq : q ∈ [(ofString "script", Value.ref l)] := hq
      simp only [List.mem_singleton] at hq
      subst hq
      kernel_rfl
  refine law_headW (d := 19) R.ks hun (hL) hI (by lia) hA fun fz s h2 => ?_
  refine lw_tail (d := 14) R rfl hun (numsL_len ns) (hplain _ (numsL_len ns)) (h2.bare (lwRho_scal _)) fun st' hF hS => ?_
  obtain ⟨m', news', F', _⟩ := hF
  obtain ⟨hp', tk', rfl⟩ := hS
  exact goodW_bool F' hg (fun _ => by first | rfl | kernel_rfl) (by first | rfl | kernel_rfl) rfl
end
end Mine
open PySem PySem.Calls PySem.W PyProof.Rows Mine
set_option Elab.async false
set_option maxRecDepth 100000
set_option maxHeartbeats 1000000 in
theorem PySem.Challenge.cw_in0035_02_holds : PySem.Challenge.rw_in0035_02.Holds := by
  w_on
  refine holds_law (by kernel_rfl) fun said => ?_
  refine holds_open (q := q02) (loose := loose02) (Xt := Xt02) (XP := XL q02 []) (Yf := Hook.obs H02) (Ya := Hook.val H02) (YP := Hook.says H02) (N := 9834) left02 (Hook.of H02) (Hook.keeps H02) (fun s e => xl_of s (Bool.and_eq_true_iff.mp e).1) XL.keeps (by rfl) (by rfl) (by rfl) (fun s e => recFacts_of (Bool.and_eq_true_iff.mp e).2) (by rfl) (by first | assumption | decide +kernel) (by decide +kernel) ⟨rfl, rfl, rfl, rfl, rfl, by decide +kernel⟩ ?hw ?hc
  case hw => w_witness2
  case hc => exact walk02 plain_all
