import PyProof.Rows.All
import Wide.All
import OpenK.AllK
import Wide.FinOn
import PySem.Challenge.RW_in0097_01
set_option Elab.async false
set_option maxRecDepth 100000
set_option maxHeartbeats 8000000
set_option linter.all false

section
open PySem PySem.W PyProof.Rows
set_option maxHeartbeats 8000000
namespace Mine
/-- the two objects that the statics hold and the library's head does not write out: the zero timedelta and timezone.utc -/
def twoObjs : List (Addr × Obj) :=
  [(38, { cls := .type "datetime.timedelta", data := .fields #[.int 0 0, .int 0 0, .int 0 0] }),
   (39, { cls := .type "datetime.timezone", data := .fields #[.ref 38, .none] })]
def hook2 (K : Params → Frag) (as : List Addr) (e : ∀ P, as = (K P).map (·.1)) (X : List (Addr × Obj)) : Hook where
  α := List (Option Obj) × List (Option Obj)
  obs := fun s => (as.map s.heap.get?, (X.map (·.1)).map s.heap.get?)
  val := fun w => ((K w.params).map fun p => some p.2, X.map fun p => some p.2)
  says := fun w h => InK K w h ∧ ∀ p ∈ X, h.get? p.1 = some p.2
  of := fun w s x => ⟨InK.of e w s (Prod.mk.inj x).1, by
    have h2 := (Prod.mk.inj x).2
    rw [List.map_map] at h2
    exact List.map_inj_left.mp h2⟩
  keeps := fun w h h' x k => ⟨InK.keeps w h h' x.1 k, fun p hp => k _ _ (x.2 p hp)⟩
theorem in2 {K : Params → Frag} {as : List Addr} {e : ∀ P, as = (K P).map (·.1)} {X : List (Addr × Obj)} {w : World} {h : Heap} (Y : (hook2 K as e X).says w h) : (K w.params).In h := Y.1
theorem two2 {K : Params → Frag} {as : List Addr} {e : ∀ P, as = (K P).map (·.1)} {X : List (Addr × Obj)} {w : World} {h : Heap} (Y : (hook2 K as e X).says w h) : ∀ p ∈ X, h.get? p.1 = some p.2 := Y.2
end Mine
local macro_rules | `(tactic| o_head ($_ $k $a $e)) => `(tactic| o_head (Mine.hook2 $k $a $e Mine.twoObjs))
namespace Mine
open_top hd for PySem.Challenge.rw_in0097_01
end Mine
end

section
open PySem PySem.W PyProof.Rows PySem.Calls
set_option maxHeartbeats 8000000
namespace Mine
/-- the head's part with the two objects ahead -/
noncomputable def K3 (P : Params) : Frag := by
  refine (fun (x : Frag) (_ : x = hd.heap_39 P) =>
    (nat_lit 38, ({ cls := .type "datetime.timedelta", data := .fields #[.int 0 0, .int 0 0, .int 0 0] } : Obj)) ::
    (nat_lit 39, ({ cls := .type "datetime.timezone", data := .fields #[.ref 38, .none] } : Obj)) :: x) ?x ?h
  case h => delta hd.heap_39; exact rfl
theorem k3_eq (P : Params) : K3 P = twoObjs ++ hd.heap_39 P := rfl
theorem k3_in {P : Params} {h : Heap} (X : (hd.heap_39 P).In h) (Y : ∀ p ∈ twoObjs, h.get? p.1 = some p.2) : (K3 P).In h := by
  intro b o e
  rw [k3_eq] at e
  by_cases h1 : b = 38
  · subst h1
    have : o = { cls := .type "datetime.timedelta", data := .fields #[.int 0 0, .int 0 0, .int 0 0] } := by
      have q : (twoObjs ++ hd.heap_39 P).lookup 38 = some { cls := .type "datetime.timedelta", data := .fields #[.int 0 0, .int 0 0, .int 0 0] } := rfl
      rw [q] at e; exact (Option.some.inj e).symm
    subst this
    exact Y (38, _) (.head _)
  · by_cases h2 : b = 39
    · subst h2
      have : o = { cls := .type "datetime.timezone", data := .fields #[.ref 38, .none] } := by
        have q : (twoObjs ++ hd.heap_39 P).lookup 39 = some { cls := .type "datetime.timezone", data := .fields #[.ref 38, .none] } := rfl
        rw [q] at e; exact (Option.some.inj e).symm
      subst this
      exact Y (39, _) (.tail _ (.head _))
    · refine X b o ?_
      have q : (twoObjs ++ hd.heap_39 P).lookup b = (hd.heap_39 P).lookup b := by
        have a1 : (b == 38) = false := beq_eq_false_iff_ne.mpr h1
        have a2 : (b == 39) = false := beq_eq_false_iff_ne.mpr h2
        show List.lookup b ((38, _) :: (39, _) :: hd.heap_39 P) = _
        rw [List.lookup_cons, List.lookup_cons, a1, a2]
      rw [← q]; exact e
noncomputable abbrev PR : Program := PySem.Challenge.rw_in0097_01.row.prog
noncomputable abbrev LO : List Str := looseW hd.view_39 [Str.ofString "_EPOCH_ORD", Str.ofString "DAYS", Str.ofString "MONTHS", Str.ofString "time2isoz", Str.ofString "time2netscape"]
end Mine
end

section
open PySem PySem.W PyProof.Rows PySem.Calls
namespace Mine
theorem gen_tk {α : Type} {M : Model} {A : Around} {t : Sem α} {Q : α → Shared → Prop} {E : Value → Shared → Prop} {h : Heap} {g : Array GenState} {d : Drawn} {X : Nat} {os : OsState}
    (x : ∀ tk, wpAny M A t Q E ⟨h, g, d, tk, os⟩) : wpAny M A t Q E ⟨h, g, d, X, os⟩ := x X
end Mine
end

section
open PySem PySem.W PyProof.Rows PySem.Calls
set_option maxHeartbeats 4000000
namespace Mine
open Sem (wp)
/-- an int member of a record type: what its reading asks of the tables -/
structure IntAt (T : String) (name : Str) (id : String) (k : Nat) : Prop where
  ga : Slot T "__getattribute__" "object.__getattribute__"
  lk : typeLookup (.type T) name = pure (some (.builtin id))
  ty : typeOf (.builtin id) = pure (.type "getset_descriptor")
  own : isSubtype (.type T) (.type (".".intercalate (id.cutAt '.').dropLast)) = pure true
  ent : entryFor table id = some (Builtin._datetime.dtIntAt k)
  kind : builtinKind id = some .getset
  quiet : ∀ as : Args, (Code.builtin id as).quiet = true
  args : ∀ b c : Value, argsOk "getset_descriptor.__get__" ⟨[.builtin id, b, c], []⟩
theorem ga_datetime : Slot "datetime.datetime" "__getattribute__" "object.__getattribute__" :=
  .of (owner := "object") (n := "__getattribute__") (by rw [typeLookup_type, builtinLookup_eq_fast]; kernel_rfl) (by decide +kernel) (by decide +kernel) (by decide +kernel)
    (by first | exact .inl (by decide +kernel) | exact .inr (by decide +kernel)) (by rw [isSubtype_type]; kernel_rfl)
theorem entry_ga : entryFor table "object.__getattribute__" = some Builtin.«object.__getattribute__» := entryFor_of_tree (by kernel_rfl)
theorem args_ga (a b : Value) : argsOk "object.__getattribute__" ⟨[a, b], []⟩ := by unfold argsOk; kernel_rfl
section
variable {prog : Program} {w : World} {A : Around} {E : Value → Shared → Prop} {h : Heap} {g : Array GenState} {d : Drawn} {t : Nat} {os : OsState} {a : Addr} {o : Obj} {vs : Array Value} {i : Int} {tk : Tok} {T id : String} {name : Str} {k : Nat}
theorem int_get {R : Result → Shared → Prop} (I : IntAt T name id k) (hx : h.get? a = some o) (hc : o.cls = .type T) (hd : o.data = .fields vs) (h0 : vs[k]? = some (.int i tk)) (hq : R (.ok (.ret (.int i t))) ⟨h, g, d, t + 1, os⟩) :
    codeAny (model prog w) A (.call (.builtin "getset_descriptor.__get__") ⟨[.builtin id, .ref a, .type T], []⟩) R ⟨h, g, d, t, os⟩ := by
  have hT : (⟨h, g, d, t, os⟩ : Shared).TypeIs (.ref a) T := ⟨_, hx, hc⟩
  have hT5 : (⟨h, g, d, t, os⟩ : Shared).TypeIs (.builtin id) "getset_descriptor" := I.ty
  have f8 := I.own
  have f9 := I.kind
  have ft := I.ty
  refine codeAny_call_builtin F.slot_gs_get.plain F.entry_gs_get (F.slot_gs_get.check _ _ _ _ _ _ _ _ hT5 (I.args _ _) ?_)
  repeat (any_goals (first | assumption | wp_step))
  refine ⟨I.quiet _, codeAny_builtin I.ent ?_⟩
  unfold Builtin._datetime.dtIntAt
  repeat (any_goals (first | assumption | with_reducible refine wpAny_field hx hd h0 ?_ | wp_step))
theorem int_entry {tn : Tok} {Q : Fin → Shared → Prop} (I : IntAt T name id k) (hx : h.get? a = some o) (hc : o.cls = .type T) (hd : o.data = .fields vs) (h0 : vs[k]? = some (.int i tk)) (hq : Q (.done (.ret (.int i t))) ⟨h, g, d, t + 1, os⟩) :
    wpAny (model prog w) A (Builtin.«object.__getattribute__» ⟨[.ref a, .str name tn], []⟩) Q E ⟨h, g, d, t, os⟩ := by
  have hT : (⟨h, g, d, t, os⟩ : Shared).TypeIs (.ref a) T := ⟨_, hx, hc⟩
  have hT5 : (⟨h, g, d, t, os⟩ : Shared).TypeIs (.builtin id) "getset_descriptor" := I.ty
  have f4 := I.lk
  have f5 := I.ty
  have f6 := F.slot_gs_get.lookup
  have f7 := F.slot_gs_set.lookup
  repeat (any_goals (first | assumption | wp_step))
  refine int_get I hx hc hd h0 ?_
  repeat (any_goals (first | assumption | wp_step))
theorem int_call {tn : Tok} {R : Result → Shared → Prop} (I : IntAt T name id k) (hx : h.get? a = some o) (hc : o.cls = .type T) (hd : o.data = .fields vs) (h0 : vs[k]? = some (.int i tk)) (hq : R (.ok (.ret (.int i t))) ⟨h, g, d, t + 1, os⟩) :
    codeAny (model prog w) A (.call (.builtin "object.__getattribute__") ⟨[.ref a, .str name tn], []⟩) R ⟨h, g, d, t, os⟩ :=
  codeAny_call_builtin I.ga.plain entry_ga (I.ga.check _ _ _ _ _ _ _ _ (show (⟨h, g, d, t, os⟩ : Shared).TypeIs (.ref a) T from ⟨_, hx, hc⟩) (args_ga _ _) (int_entry I hx hc hd h0 hq))
theorem int_by {tn : Tok} {fill expr : Bool} {Q : Value → Shared → Prop} (I : IntAt T name id k) (hx : h.get? a = some o) (hc : o.cls = .type T) (hd : o.data = .fields vs) (h0 : vs[k]? = some (.int i tk)) (hq : Q (.int i t) ⟨h, g, d, t + 1, os⟩) :
    wpAny (model prog w) A (getAttrBy (.ref a) (.str name tn) fill expr) Q E ⟨h, g, d, t, os⟩ := by
  have hT : (⟨h, g, d, t, os⟩ : Shared).TypeIs (.ref a) T := ⟨_, hx, hc⟩
  have f2 := I.ga.lookup
  have f3 := I.ga.bind (.ref a)
  have hx0 : (expr && onTheHeap (Value.builtin "object.__getattribute__")) = false := by cases expr <;> rfl
  repeat (any_goals (first | assumption | wp_step))
  refine int_call I hx hc hd h0 ?_
  repeat (any_goals (first | assumption | wp_step))
theorem int_attr {expr : Bool} {Q : Value → Shared → Prop} (I : IntAt T name id k) (hx : h.get? a = some o) (hc : o.cls = .type T) (hd : o.data = .fields vs) (h0 : vs[k]? = some (.int i tk)) (hq : Q (.int i (t + 1)) ⟨h, g, d, t + 1 + 1, os⟩) :
    wpAny (model prog w) A (getAttr (.ref a) name expr) Q E ⟨h, g, d, t, os⟩ := by
  unfold getAttr
  repeat (any_goals (first | assumption | with_reducible apply int_by I hx hc hd h0 | wp_step))
end
theorem at_year : IntAt "datetime.datetime" "year" "datetime.date.year" 0 where
  ga := ga_datetime
  lk := by rw [typeLookup_type, builtinLookup_eq_fast]; kernel_rfl
  ty := by kernel_rfl
  own := by
    have e0 : "datetime.date.year".cutAt '.' = ["datetime", "date", "year"] := by first | rfl | decide +kernel
    rw [e0, show ".".intercalate ["datetime", "date", "year"].dropLast = "datetime.date" by decide +kernel, isSubtype_type]
    kernel_rfl
  ent := entryFor_of_tree (by kernel_rfl)
  kind := by decide +kernel
  quiet := fun _ => Code.quiet_builtin _ (by decide +kernel)
  args := fun _ _ => by unfold argsOk; kernel_rfl
end Mine
end

section
open PySem PySem.W PyProof.Rows PySem.Calls
set_option maxHeartbeats 4000000
namespace Mine
theorem if_no {α : Type} {M : Model} {A : Around} {E : Value → Shared → Prop} {s : Shared} {c : Prop} [Decidable c] {a b : Sem α} {Q : α → Shared → Prop} (hc : ¬ c) (h : wpAny M A b Q E s) : wpAny M A (if c then a else b) Q E s := by rw [if_neg hc]; exact h
theorem if_yes {α : Type} {M : Model} {A : Around} {E : Value → Shared → Prop} {s : Shared} {c : Prop} [Decidable c] {a b : Sem α} {Q : α → Shared → Prop} (hc : c) (h : wpAny M A a Q E s) : wpAny M A (if c then a else b) Q E s := by rw [if_pos hc]; exact h
end Mine
local macro_rules | `(tactic| walk_at "m arith") => `(tactic| (first | omega | (simp only [Bool.or_eq_true, Bool.and_eq_true, Bool.not_eq_true', Bool.or_eq_false_iff, decide_eq_true_eq, decide_eq_false_iff_not, bne_iff_ne, beq_iff_eq, ne_eq, not_or, not_and]; omega)))
local macro_rules | `(tactic| walk_at "m if") => `(tactic| (first
  | ((with_reducible refine Mine.if_no ?_ ?_); focus (walk_at "m arith"))
  | ((with_reducible refine Mine.if_yes ?_ ?_); focus (walk_at "m arith"))))
namespace Mine
open Sem (wp)
open PySem.Builtin._datetime
/-- the object of a date -/
abbrev dateObj (y mo d : Int) : Obj := { cls := .type "datetime.date", data := .fields #[.int y 0, .int mo 0, .int d 0] }
theorem mro_date : mroOf (.type "datetime.date") = pure [.type "datetime.date", .type "object"] := by rw [mroOf_type]; kernel_rfl
theorem lk_date_new : typeLookup (.type "datetime.date") "__new__" = pure (some (.builtin "datetime.date.__new__")) := by rw [typeLookup_type, builtinLookup_eq_fast]; kernel_rfl
theorem sub_date_date : isSubtype (.type "datetime.date") (.type "datetime.date") = pure true := by rw [isSubtype_type]; kernel_rfl
theorem sub_date_datetime : isSubtype (.type "datetime.date") (.type "datetime.datetime") = pure false := by rw [isSubtype_type]; kernel_rfl
theorem slot_date_init : Slot "datetime.date" "__init__" "object.__init__" :=
  .of (owner := "object") (n := "__init__") (by rw [typeLookup_type, builtinLookup_eq_fast]; kernel_rfl) (by decide +kernel) (by decide +kernel) (by decide +kernel)
    (by first | exact .inl (by decide +kernel) | exact .inr (by decide +kernel)) (by rw [isSubtype_type]; kernel_rfl)
theorem called_date : TypeCalled "datetime.date" "datetime.date.__new__" "object.__init__" :=
  ⟨by decide +kernel, by decide +kernel, ⟨_, _, mro_date⟩, madeBy_type mro_date lk_date_new (by decide +kernel), by decide +kernel, sub_date_date, slot_date_init⟩
theorem typeCall_date (a b c : Value) : checkTypeCall "datetime.date" ⟨[a, b, c], []⟩ = pure () := by kernel_rfl
theorem newCall_date (a b c : Value) : checkBuiltinCall "datetime.date.__new__" ⟨[.type "datetime.date", a, b, c], []⟩ = pure () := by kernel_rfl
theorem entry_date_new : entryFor table "datetime.date.__new__" = some Builtin.«datetime.date.__new__» := entryFor_of_tree (by kernel_rfl)
theorem newNe_date : (some "datetime.date.__new__" != some "object.__new__") = true := by decide +kernel
theorem args_oinit (obj a b c : Value) : argsOk "object.__init__" ⟨[obj, a, b, c], []⟩ := by unfold argsOk; kernel_rfl
section
variable {M : Model} {A : Around} {E : Value → Shared → Prop} {h : Heap} {g : Array GenState} {d : Drawn} {t : Nat} {os : OsState}
theorem dim_pos (y mo : Int) (h3 : 1 ≤ mo) (h4 : mo ≤ 12) : 28 ≤ daysInMonth y mo ∧ daysInMonth y mo ≤ 31 := by
  have : mo = 1 ∨ mo = 2 ∨ mo = 3 ∨ mo = 4 ∨ mo = 5 ∨ mo = 6 ∨ mo = 7 ∨ mo = 8 ∨ mo = 9 ∨ mo = 10 ∨ mo = 11 ∨ mo = 12 := by omega
  unfold daysInMonth
  rcases this with e | e | e | e | e | e | e | e | e | e | e | e <;> subst e <;> (repeat' split) <;> decide
theorem dtCInt_int {n : Int} {u : Tok} (h1 : -2147483648 ≤ n) (h2 : n < 2147483648) : dtCInt (.int n u) = pure n := by
  have a1 : (decide (n ≥ 2 ^ 63) || decide (n < -(2 ^ 63 : Int))) = false := by simp only [Bool.or_eq_false_iff, decide_eq_false_iff_not]; omega
  have a2 : ¬ n ≥ 2 ^ 31 := by omega
  have a3 : ¬ n < -(2 ^ 31 : Int) := by omega
  show (asIndex (.int n u) >>= fun i => _) = _
  have e : asIndex (.int n u) = pure n := rfl
  rw [e, pure_bind]
  simp only [a1, a2, a3, if_false, Bool.false_eq_true, pure_bind]
theorem bindInts {y mo dd : Int} {a b c : Tok} (h1 : -2147483648 ≤ y ∧ y < 2147483648) (h2 : -2147483648 ≤ mo ∧ mo < 2147483648) (h3 : -2147483648 ≤ dd ∧ dd < 2147483648) :
    dtBindInts "datetime.date.__new__" "function" ["year", "month", "day"] 3 [.int y a, .int mo b, .int dd c] [] = pure [some y, some mo, some dd] := by
  have e1 := dtCInt_int (u := a) h1.1 h1.2
  have e2 := dtCInt_int (u := b) h2.1 h2.2
  have e3 := dtCInt_int (u := c) h3.1 h3.2
  have e4 : dtBind "datetime.date.__new__" "function" ["year", "month", "day"] 0 [.int y a, .int mo b, .int dd c] [] = pure [some (.int y a), some (.int mo b), some (.int dd c)] := by kernel_rfl
  unfold dtBindInts
  simp only [List.zipIdx_cons, List.zipIdx_nil, List.forIn_cons, List.forIn_nil, List.length_cons, List.length_nil]
  simp [e1, e2, e3, e4]
theorem date_new_ok {y mo : Int} {a b c : Tok} {P : Fin → Shared → Prop} (h1 : 1 ≤ y) (h2 : y ≤ 9999) (h3 : 1 ≤ mo) (h4 : mo ≤ 12)
    (hq : P (.done (.ret (.ref h.objs.size))) ⟨h.push (dateObj y mo 1), g, d, t, os⟩) :
    wpAny M A (Builtin.«datetime.date.__new__» ⟨[.type "datetime.date", .int y a, .int mo b, .int 1 c], []⟩) P E ⟨h, g, d, t, os⟩ := by
  have f1 := sub_date_date
  have f2 := sub_date_datetime
  have hd := dim_pos y mo h3 h4
  have f3 := bindInts (y := y) (mo := mo) (dd := 1) (a := a) (b := b) (c := c) (by omega) (by omega) (by omega)
  unfold Builtin.«datetime.date.__new__»
  repeat (any_goals (first | assumption | wp_step | walk_at "m if"))
end
end Mine
end

section
open PySem PySem.W PyProof.Rows PySem.Calls
set_option maxHeartbeats 4000000
local macro_rules | `(tactic| walk_at "m arith") => `(tactic| (first | omega | (simp only [Bool.or_eq_true, Bool.and_eq_true, Bool.not_eq_true', Bool.or_eq_false_iff, decide_eq_true_eq, decide_eq_false_iff_not, bne_iff_ne, beq_iff_eq, ne_eq, not_or, not_and]; omega)))
local macro_rules | `(tactic| walk_at "m if") => `(tactic| (first
  | ((with_reducible refine Mine.if_no ?_ ?_); focus (walk_at "m arith"))
  | ((with_reducible refine Mine.if_yes ?_ ?_); focus (walk_at "m arith"))))
namespace Mine
open Sem (wp)
open PySem.Builtin._datetime
theorem year_msg {y : Int} (h1 : 0 ≤ y) (h2 : y < 1000000) : ((toString "year " ++ toString y ++ toString " is out of range" : String) : Str).length ≤ sizeLine := by
  have e := int_text_length_le10 (a := y) (k := 6) (by decide) (by omega)
  rw [PySem.ofString_length, sizeLine_eq]
  simp only [String.length_append]
  have e1 : (toString "year ").length = 5 := by decide +kernel
  have e2 : (toString " is out of range").length = 16 := by decide +kernel
  omega
section
variable {M : Model} {A : Around} {E : Value → Shared → Prop} {h : Heap} {g : Array GenState} {d : Drawn} {t : Nat} {os : OsState}
theorem date_new_no {y mo : Int} {a b c : Tok} {P : Fin → Shared → Prop} (hh : A.handled = none) (h1 : 9999 < y) (h2 : y < 1000000) (h3 : 1 ≤ mo) (h4 : mo ≤ 12)
    (hq : ∀ h' tk e, Heap.NewExc h h' e "ValueError" → E (.ref e) ⟨h', g, d, tk, os⟩) :
    wpAny M A (Builtin.«datetime.date.__new__» ⟨[.type "datetime.date", .int y a, .int mo b, .int 1 c], []⟩) P E ⟨h, g, d, t, os⟩ := by
  have f1 := sub_date_date
  have f2 := sub_date_datetime
  have hd := dim_pos y mo h3 h4
  have f3 := bindInts (y := y) (mo := mo) (dd := 1) (a := a) (b := b) (c := c) (by omega) (by omega) (by omega)
  unfold Builtin.«datetime.date.__new__»
  repeat (any_goals (first | assumption | (with_reducible refine wpAny_raiseErrorMade plainExc_ValueError hh ?_ (year_msg (by omega) (by omega))) | wp_step | walk_at "m if"))
end
section
variable {prog : Program} {w : World} {A : Around} {E : Value → Shared → Prop} {s : Shared} {h₀ : Heap} {L : Addr} {m : Str → Option Value} {news : List (Addr × Obj)} {y mo : Int} {a b c : Tok} {Q : Value → Shared → Prop}
/-- what date(y, mo, 1) comes to -/
def dateSpec (y mo : Int) : PySem.Spec := fun A R s =>
  (y ≤ 9999 → R (.ok (.ret (.ref s.heap.objs.size))) { s with heap := s.heap.push (dateObj y mo 1) }) ∧
  (9999 < y → A.handled = none ∧ ∀ h' tk e, Heap.NewExc s.heap h' e "ValueError" → R (.error (.ref e)) { s with heap := h', toks := tk })
theorem date_meets (h1 : 1 ≤ y) (h2 : y < 1000000) (h3 : 1 ≤ mo) (h4 : mo ≤ 12) : Meets (Builtin.«datetime.date.__new__» ⟨[.type "datetime.date", .int y a, .int mo b, .int 1 c], []⟩) (dateSpec y mo) := by
  refine Meets.of_wp fun prog w A R s hs => ?_
  obtain ⟨h, g, d, t, os⟩ := s
  by_cases hy : y ≤ 9999
  · exact date_new_ok h1 hy h3 h4 ⟨_, rfl, hs.1 hy⟩
  · have hs' := hs.2 (by omega)
    exact date_new_no hs'.1 (by omega) h2 h3 h4 hs'.2
theorem date_call (F : Fr h₀ L s.heap m) (N : News h₀ L s.heap news) (hh : A.handled = none) (h1 : 1 ≤ y) (h2 : y < 1000000) (h3 : 1 ≤ mo) (h4 : mo ≤ 12)
    (hok : y ≤ 9999 → ∀ q h', Fr h₀ L h' m → News h₀ L h' ((q, dateObj y mo 1) :: news) → (∀ p ∈ news, p.1 < q) → Q (.ref q) { s with heap := h' })
    (hno : 9999 < y → ∀ h' tk e, Heap.NewExc s.heap h' e "ValueError" → E (.ref e) { s with heap := h', toks := tk }) :
    wpAny (model prog w) A (call (.type "datetime.date") [.int y a, .int mo b, .int 1 c]) Q E s := by
  refine callType_new called_date newNe_date (typeCall_date _ _ _) (newCall_date _ _ _) (fun obj => args_oinit obj _ _ _) entry_date_new (date_meets h1 h2 h3 h4) ⟨fun hy => ⟨⟨_, Heap.get?_push_size _ rfl, rfl⟩, ?_⟩, fun hy => ⟨hh, hno hy⟩⟩
  exact hok hy _ _ (F.push _) (N.push F _) fun p hp => Heap.lt_size (N p hp).1
end
end Mine
end

section
open PySem PySem.W PyProof.Rows PySem.Calls
set_option maxHeartbeats 4000000
namespace Mine
open Sem (wp)
open PySem.Builtin._datetime
theorem ga_date : Slot "datetime.date" "__getattribute__" "object.__getattribute__" :=
  .of (owner := "object") (n := "__getattribute__") (by rw [typeLookup_type, builtinLookup_eq_fast]; kernel_rfl) (by decide +kernel) (by decide +kernel) (by decide +kernel)
    (by first | exact .inl (by decide +kernel) | exact .inr (by decide +kernel)) (by rw [isSubtype_type]; kernel_rfl)
/-- a plain method of a record type -/
structure MethOf (T : String) (name : Str) (id : String) : Prop where
  ga : Slot T "__getattribute__" "object.__getattribute__"
  nog : typeLookup (.type T) "__getattr__" = pure none
  slot : Slot T name id
  ty : typeOf (.builtin id) = pure (.type "method_descriptor")
theorem canon_oga : (Manifest.canonical "object.__getattribute__" != "object.__getattribute__") = false := by first | rfl | decide +kernel
section
variable {prog : Program} {w : World} {A : Around} {E : Value → Shared → Prop} {s : Shared} {a : Addr} {o : Obj} {T id : String} {name : Str}
theorem getm {M : Model} {pl : Sem Bool} {Q : Value × List Value → Shared → Prop} (I : MethOf T name id) (hx : s.heap.get? a = some o) (hc : o.cls = .type T) (hd : o.dict = none) (hq : Q (.builtin id, [.ref a]) s) :
    wpAny M A (getMethod (.ref a) name pl) Q E s := by
  have hT : s.TypeIs (.ref a) T := ⟨_, hx, hc⟩
  unfold getMethod
  refine wpAny_bind (wpAny_specialOf hT I.ga.lookup ?_)
  show wpAny M A (if (Manifest.canonical "object.__getattribute__" != "object.__getattribute__") = true then _ else _) Q E s
  rw [canon_oga, if_neg Bool.false_ne_true]
  refine wpAny_bind (wpAny_specialOf hT I.nog ?_)
  refine wpAny_bind (wpAny_specialOf hT I.slot.lookup ?_)
  refine wpAny_bind (wpAny_of_eq I.ty ?_)
  refine wpAny_bind (wpAny_load hx ?_)
  rw [hd]
  exact wpAny_bind (wpAny_rule (wpAny_pure hq))
/-- the parts of a date are read -/
theorem dateParts_of {M : Model} {y mo dd : Int} {t1 t2 t3 : Tok} {rest : List Value} {Q : Int × Int × Int → Shared → Prop} (hx : s.heap.get? a = some o) (hc : o.cls = .type T) (hs : isSubtype (.type T) (.type "datetime.date") = pure true)
    (hd : o.data = .fields (.int y t1 :: .int mo t2 :: .int dd t3 :: rest).toArray) (hq : Q (y, mo, dd) s) : wpAny M A (dateParts (.ref a)) Q E s := by
  have hT : s.TypeIs (.ref a) T := ⟨_, hx, hc⟩
  unfold dateParts dateParts? fieldsOf
  refine wpAny_bind (wpAny_bind (wpAny_isInstance hT hs ?_))
  show wpAny M A (if (!true) = true then _ else _) _ _ _
  rw [if_neg (by decide)]
  refine wpAny_bind (wpAny_bind (wpAny_load hx ?_))
  rw [hd]
  exact wpAny_pure (wpAny_pure (wpAny_pure hq))
theorem toord_meth : MethOf "datetime.date" "toordinal" "datetime.date.toordinal" where
  ga := ga_date
  nog := by rw [typeLookup_type, builtinLookup_eq_fast]; kernel_rfl
  slot := .of (owner := "datetime.date") (n := "toordinal") (by rw [typeLookup_type, builtinLookup_eq_fast]; kernel_rfl) (by decide +kernel) (by decide +kernel) (by decide +kernel)
    (by first | exact .inl (by decide +kernel) | exact .inr (by decide +kernel)) (by rw [isSubtype_type]; kernel_rfl)
  ty := by kernel_rfl
theorem weekday_meth : MethOf "datetime.datetime" "weekday" "datetime.date.weekday" where
  ga := ga_datetime
  nog := by rw [typeLookup_type, builtinLookup_eq_fast]; kernel_rfl
  slot := .of (owner := "datetime.date") (n := "weekday") (by rw [typeLookup_type, builtinLookup_eq_fast]; kernel_rfl) (by decide +kernel) (by decide +kernel) (by decide +kernel)
    (by first | exact .inl (by decide +kernel) | exact .inr (by decide +kernel)) (by rw [isSubtype_type]; kernel_rfl)
  ty := by kernel_rfl
theorem sub_datetime_date : isSubtype (.type "datetime.datetime") (.type "datetime.date") = pure true := by rw [isSubtype_type]; kernel_rfl
theorem entry_toord : entryFor table "datetime.date.toordinal" = some Builtin.«datetime.date.toordinal» := entryFor_of_tree (by kernel_rfl)
theorem entry_weekday : entryFor table "datetime.date.weekday" = some Builtin.«datetime.date.weekday» := entryFor_of_tree (by kernel_rfl)
theorem args_toord (a : Value) : argsOk "datetime.date.toordinal" ⟨[a], []⟩ := by unfold argsOk; kernel_rfl
theorem args_weekday (a : Value) : argsOk "datetime.date.weekday" ⟨[a], []⟩ := by unfold argsOk; kernel_rfl
theorem toord_call {y mo dd : Int} {t1 t2 t3 : Tok} {Q : Value → Shared → Prop} (hx : s.heap.get? a = some o) (hc : o.cls = .type "datetime.date")
    (hd : o.data = .fields #[.int y t1, .int mo t2, .int dd t3]) (hq : Q (.int (toOrdinal y mo dd) s.toks) { s with toks := s.toks + 1 }) : wpAny (model prog w) A (call (.builtin "datetime.date.toordinal") [.ref a]) Q E s := by
  refine wpAny_call_entry toord_meth.slot ⟨_, hx, hc⟩ entry_toord ?_ (args_toord _)
  unfold Builtin.«datetime.date.toordinal»
  wp_delta
  refine wpAny_bind (wpAny_of_eq (a := .ref a) (by kernel_rfl) ?_)
  refine wpAny_bind (dateParts_of hx hc sub_date_date hd ?_)
  exact wpAny_bind (wpAny_mkInt (wpAny_pure ⟨_, rfl, hq⟩))
theorem weekday_call {y mo dd : Int} {t1 t2 t3 : Tok} {rest : List Value} {Q : Value → Shared → Prop} (hx : s.heap.get? a = some o) (hc : o.cls = .type "datetime.datetime")
    (hd : o.data = .fields (.int y t1 :: .int mo t2 :: .int dd t3 :: rest).toArray) (hq : Q (.int (weekdayOf (toOrdinal y mo dd)) s.toks) { s with toks := s.toks + 1 }) : wpAny (model prog w) A (call (.builtin "datetime.date.weekday") [.ref a]) Q E s := by
  refine wpAny_call_entry weekday_meth.slot ⟨_, hx, hc⟩ entry_weekday ?_ (args_weekday _)
  unfold Builtin.«datetime.date.weekday»
  wp_delta
  refine wpAny_bind (wpAny_of_eq (a := .ref a) (by kernel_rfl) ?_)
  refine wpAny_bind (dateParts_of hx hc sub_datetime_date hd ?_)
  exact wpAny_bind (wpAny_mkInt (wpAny_pure ⟨_, rfl, hq⟩))
end
end Mine
end

section
open PySem PySem.W PyProof.Rows PySem.Calls
set_option maxHeartbeats 4000000
namespace Mine
open Sem (wp)
open PySem.Builtin._datetime
theorem ty_tz : typeOf (.type "datetime.timezone") = pure (.type "type") := by kernel_rfl
theorem lk_type_ga : typeLookup (.type "type") "__getattribute__" = pure (some (.builtin "type.__getattribute__")) := by rw [typeLookup_type, builtinLookup_eq_fast]; kernel_rfl
theorem lk_type_utc : typeLookup (.type "type") "utc" = pure none := by rw [typeLookup_type, builtinLookup_eq_fast]; kernel_rfl
theorem lk_tz_utc : typeLookup (.type "datetime.timezone") "utc" = pure (some (.builtin "datetime.timezone.utc#data")) := by rw [typeLookup_type, builtinLookup_eq_fast]; kernel_rfl
theorem lk_tz_get : typeLookup (.type "datetime.timezone") "__get__" = pure none := by rw [typeLookup_type, builtinLookup_eq_fast]; kernel_rfl
theorem ty_utc : typeOf (.builtin "datetime.timezone.utc#data") = pure (.type "datetime.timezone") := by kernel_rfl
theorem stub_tz : opaqueClassAbove (.type "datetime.timezone") = pure none := by unfold opaqueClassAbove; dsimp only; rw [show Manifest.isStub "datetime.timezone" = false by decide +kernel]; rfl
theorem entry_utc : entryFor table "datetime.timezone.utc#data" = some Builtin.«datetime.timezone.utc#data» := entryFor_of_tree (by kernel_rfl)
theorem datum_utc : typeDatum "datetime.timezone.utc#data" = runValue (.builtin "datetime.timezone.utc#data" ⟨[], []⟩) := by kernel_rfl
theorem handed_utc : handedOut (.builtin "datetime.timezone.utc#data") = typeDatum "datetime.timezone.utc#data" := by kernel_rfl
theorem handed_ref (a : Addr) : handedOut (.ref a) = pure (.ref a) := rfl
section
variable {prog : Program} {w : World} {A : Around} {E : Value → Shared → Prop} {s : Shared} {K : Frag} {z : Addr}
theorem utc_body {tk : Tok} {Q : Fin → Shared → Prop} (X : K.In s.heap) (e : nsIn K cStatics "datetime.timezone.utc" = some (some (.ref z))) (hq : Q (.done (.ret (.ref z))) s) :
    wpAny (model prog w) A (Builtin.«type.__getattribute__» ⟨[.type "datetime.timezone", .str "utc" tk], []⟩) Q E s := by
  have Lz : Looks (model prog w) s.heap utcZone (.ref z) := by
    unfold utcZone
    exact Looks.andThen (looks_nsIn X e) .now
  unfold Builtin.«type.__getattribute__»
  refine wpAny_bind (wpAny_pure (wpAny_bind (wpAny_of_eq stub_tz (wpAny_bind (wpAny_of_eq ty_tz (wpAny_bind (wpAny_of_eq lk_type_utc ?_)))))))
  refine wpAny_bind (wpAny_pure ?_)
  refine wpAny_bind (wpAny_of_eq lk_tz_utc ?_)
  dsimp only
  rw [if_neg (by decide +kernel)]
  refine wpAny_bind (wpAny_of_eq ty_utc ?_)
  rw [if_neg (by decide +kernel)]
  refine wpAny_bind (wpAny_specialOf (T := "datetime.timezone") ty_utc lk_tz_get ?_)
  dsimp only
  rw [handed_utc, datum_utc]
  refine wpAny_bind (wpAny_runValue (codeAny_builtin entry_utc ?_))
  unfold Builtin.«datetime.timezone.utc#data»
  refine wpAny_bind (Lz.here ?_)
  exact wpAny_pure (wpAny_pure hq)
theorem utc_attr {expr : Bool} {Q : Value → Shared → Prop} (X : K.In s.heap) (e : nsIn K cStatics "datetime.timezone.utc" = some (some (.ref z))) (hq : Q (.ref z) { s with toks := s.toks + 1 }) :
    wpAny (model prog w) A (getAttr (.type "datetime.timezone") "utc" expr) Q E s := by
  refine wpAny_bind (wpAny_mkText (wpAny_holding (wpAny_bind (wpAny_of_eq ty_tz (wpAny_bind (wpAny_of_eq lk_type_ga ?_))))))
  dsimp only
  rw [if_neg (by decide +kernel)]
  refine wpAny_bind (m := hookBefore (.type "type")) (wpAny_of_eq (a := none) rfl ?_)
  refine wpAny_bind (wpAny_attempt (wpAny_holding ?_))
  unfold callGetattribute
  rw [show (expr && onTheHeap (Value.builtin "type.__getattribute__")) = false from Bool.and_false _, if_neg (by decide)]
  unfold boundAndCalled
  rw [KF.slot_tga.bind]
  refine wpAny_bind (wpAny_pure ?_)
  show wpAny _ _ (call (.builtin "type.__getattribute__") [.type "datetime.timezone", .str "utc" s.toks]) _ _ _
  refine wpAny_call ?_
  refine codeAny_call_builtin KF.slot_tga.plain KF.entry_tga (KF.slot_tga.check _ _ _ _ _ _ _ _ (show Shared.TypeIs _ (.type "datetime.timezone") "type" from ty_tz) (KF.args_tga _ _) ?_)
  refine utc_body X e ?_
  show wpAny _ _ (handedOut (.ref z)) _ _ _
  rw [handed_ref]
  exact wpAny_pure hq
end
end Mine
end

section
open PySem PySem.W PyProof.Rows PySem.Calls
set_option maxHeartbeats 4000000
namespace Mine
open Sem (wp)
open PySem.Builtin._datetime
/-- the bound class method fromtimestamp -/
abbrev boundFt : Obj := { cls := .type "builtin_function_or_method", data := .fields #[.builtin "datetime.datetime.fromtimestamp", .type "datetime.datetime"] }
theorem type_ft : typeOf (.builtin "datetime.datetime.fromtimestamp") = pure (.type "classmethod_descriptor") := by show builtinType _ = _; rw [builtinType_eq_fast]; kernel_rfl
theorem entry_ft : entryFor table "datetime.datetime.fromtimestamp" = some Builtin.«datetime.datetime.fromtimestamp» := entryFor_of_tree (by kernel_rfl)
theorem quiet_ft {as : Args} : (Code.builtin "datetime.datetime.fromtimestamp" as).quiet = true := Code.quiet_builtin _ (by decide +kernel)
theorem owner_ft : (kfb_private% "ownerAndName") "datetime.datetime.fromtimestamp" = ("datetime.datetime", "fromtimestamp") := by first | decide +kernel | kernel_rfl
theorem ty_dt : typeOf (.type "datetime.datetime") = pure (.type "type") := by kernel_rfl
theorem istype_dt : isType (.type "datetime.datetime") = pure true := rfl
theorem sub_dt_dt : isSubtype (.type "datetime.datetime") (.type "datetime.datetime") = pure true := by rw [isSubtype_type]; kernel_rfl
section
variable {prog : Program} {w : World} {M : Model} {A : Around} {E : Value → Shared → Prop} {s : Shared} {K : Frag} {h₀ : Heap} {L : Addr} {m : PySem.Str → Option Value} {news : List (Addr × Obj)}
theorem run_get {P : Fin → Shared → Prop} (h : P (.done (.ret (.ref s.heap.objs.size))) { s with heap := s.heap.push boundFt }) :
    wpAny M A (Builtin.«classmethod_descriptor.__get__» ⟨[.builtin "datetime.datetime.fromtimestamp", .none, .type "datetime.datetime"], []⟩) P E s := by
  unfold Builtin.«classmethod_descriptor.__get__»
  refine wpAny_bind (wpAny_of_eq (a := (.builtin "datetime.datetime.fromtimestamp", none, some (.type "datetime.datetime"))) (by first | rfl | kernel_rfl) ?_)
  simp only [owner_ft]
  refine wpAny_bind (wpAny_of_eq (a := .type "datetime.datetime") rfl ?_)
  refine wpAny_bind (wpAny_of_eq (a := true) istype_dt ?_)
  refine KFB.if_not rfl ?_
  refine wpAny_bind (wpAny_of_eq (a := true) sub_dt_dt ?_)
  refine KFB.if_not rfl ?_
  exact wpAny_bind (wpAny_newObj_type (wpAny_pure h))
theorem getm_ft {pl : Sem Bool} {Q : Value × List Value → Shared → Prop} (F : Fr h₀ L s.heap m) (N : News h₀ L s.heap news) (X₀ : K.In h₀)
    (e : findCls K (.type "datetime.datetime") (.type "type") (PySem.Str.ofString "fromtimestamp") = some (.get (.builtin "classmethod_descriptor.__get__") (.builtin "datetime.datetime.fromtimestamp") .none (.type "datetime.datetime")))
    (h : ∀ x h', Fr h₀ L h' m → News h₀ L h' ((x, boundFt) :: news) → (∀ p ∈ news, p.1 < x) → Q (.ref x, []) { s with heap := h', toks := s.toks + 1 }) :
    wpAny (model prog w) A (getMethod (.type "datetime.datetime") (PySem.Str.ofString "fromtimestamp") pl) Q E s := by
  have X := X₀.keeps F.keep
  have hstub : opaqueClassAbove (.type "datetime.datetime") = pure none := by unfold opaqueClassAbove; dsimp only; rw [show Manifest.isStub "datetime.datetime" = false by decide +kernel]; rfl
  have L0 : Looks (model prog w) s.heap (typeOf (.type "datetime.datetime")) (.type "type") := Looks.of_pure ty_dt
  have hg : findIn K (.type "type") "__getattribute__" = some (some (.builtin "type.__getattribute__")) := type_tga
  unfold getMethod specialOf
  refine wpAny_bind (wpAny_bind (L0.here ((looks_findIn X hg).here ?_)))
  dsimp only
  rw [if_pos canon_tga]
  refine wpAny_bind (wpAny_mono (Q := fun v => Q (v, [])) (E := E) ?_ (fun _ _ z => wpAny_pure z) fun _ _ z => z)
  have LO : Looks (model prog w) s.heap (opaqueClassAbove (.type "datetime.datetime")) none := Looks.of_pure hstub
  refine cls_open X LO L0 hg (looks_hook X (r := none) (by rfl)) (by show subIn K _ _ = _; rfl) e ?_
  show wpAny _ _ (holding [.builtin "datetime.datetime.fromtimestamp"] (call (.builtin "classmethod_descriptor.__get__") [.builtin "datetime.datetime.fromtimestamp", .none, .type "datetime.datetime"]) >>= fun v => ret v) _ _ _
  refine wpAny_bind (wpAny_holding (wpAny_call_entry KFB.slot_get type_ft KFB.entry_get (run_get ⟨_, rfl, wpAny_pure (wpAny_pure (h _ _ (F.push _) (News.push F N _) fun p hp => Heap.lt_size (N p hp).1))⟩) (KFB.args_get _ _ _)))
def StandsAt (x : Addr) (h : Heap) : Prop := h.get? x = some boundFt
theorem at_of {x : Addr} {h : Heap} (N : News h₀ L h news) (hm : (x, boundFt) ∈ news) : StandsAt x h := N.get hm
theorem callWith_ft {pos : Pos} {u : Addr} {first : List Value} {env : Env} {ex : Expr} {rest : List Expr} {kws : List Keyword} {Q : Value → Shared → Prop}
    (_N : News h₀ L s.heap news) (_hm : (u, boundFt) ∈ news) (hall : (backToKw pos (keywordEach kws env)).all (·.1.isSome) = true)
    (h : wpAny M A (spliced (backTo pos (starEach (ex :: rest) env))) (fun vs s₁ => wpAny M A (evalAll ((backToKw pos (keywordEach kws env)).map (·.2)))
      (fun ks s₂ => StandsAt u s₂.heap ∧ wpAny M A (call (.ref u) (first ++ vs) (((backToKw pos (keywordEach kws env)).filterMap (·.1)).zip ks)) Q E s₂) E s₁) E s)
    (hplain : ((backTo pos (starEach (ex :: rest) env)).any (·.1) || (backToKw pos (keywordEach kws env)).any (·.1.isNone)) = false := by rfl) (he : starEach (ex :: rest) env = (false, eval ex env) :: starEach rest env := by rfl) :
    wpAny M A (callWith pos (.ref u) first (backTo pos (starEach (ex :: rest) env)) (backToKw pos (keywordEach kws env))) Q E s := by
  unfold callWith
  rw [he] at h hplain ⊢
  refine wpAny_bind (wpAny_holding (evalArgs_kw hall (wpAny_mono h (fun vs s₁ h₁ => wpAny_mono h₁ (fun ks s₂ h₂ => wpAny_bind (wpAny_standAt ?_)) fun _ _ x => x) fun _ _ x => x)))
  obtain ⟨ho, hcall⟩ := h₂
  rw [hplain]
  refine wpAny_bind (m := keeperOf (.ref u)) ?_
  unfold keeperOf
  refine wpAny_bind (wpAny_load ho ?_)
  simp only [show (Value.type "builtin_function_or_method" != Value.type "method") = true by decide, show (Value.type "builtin_function_or_method" == Value.type "builtin_function_or_method" || Value.type "builtin_function_or_method" == Value.type "method-wrapper") = true by decide, if_true]
  refine wpAny_pure ?_
  exact wpAny_bind (wpAny_mono hcall (fun r s₂ hr => wpAny_bind (wpAny_holding (wpAny_point (wpAny_pure hr)))) fun _ _ x => x)
end
end Mine
end

section
open PySem PySem.W PyProof.Rows PySem.Calls
set_option maxHeartbeats 4000000
local macro_rules | `(tactic| walk_at "m arith") => `(tactic| (first | omega | (simp only [Bool.or_eq_true, Bool.and_eq_true, Bool.not_eq_true', Bool.or_eq_false_iff, decide_eq_true_eq, decide_eq_false_iff_not, bne_iff_ne, beq_iff_eq, ne_eq, not_or, not_and]; omega)))
local macro_rules | `(tactic| walk_at "m if") => `(tactic| (first
  | ((with_reducible refine Mine.if_no ?_ ?_); focus (walk_at "m arith"))
  | ((with_reducible refine Mine.if_yes ?_ ?_); focus (walk_at "m arith"))))
namespace Mine
open Sem (wp)
open PySem.Builtin._datetime
open PySem.Builtin.Time (timeBroken)
abbrev zeroObj : Obj := { cls := .type "datetime.timedelta", data := .fields #[.int 0 0, .int 0 0, .int 0 0] }
abbrev utcObj (z0 : Addr) : Obj := { cls := .type "datetime.timezone", data := .fields #[.ref z0, .none] }
abbrev dtObj (y mo d hh mi ss : Int) (z : Addr) : Obj := { cls := .type "datetime.datetime", data := .fields #[.int y 0, .int mo 0, .int d 0, .int hh 0, .int mi 0, .int ss 0, .int 0 0, .ref z, .int 0 0, .none] }
theorem sub_tz_info : isSubtype (.type "datetime.timezone") (.type "datetime.tzinfo") = pure true := by rw [isSubtype_type]; kernel_rfl
theorem bind_ft (n : Int) (t1 : Tok) (z : Addr) : dtBind "datetime.datetime.fromtimestamp" "fromtimestamp()" ["timestamp", "tz"] 1 [.int n t1] [("tz", .ref z)] = pure [some (.int n t1), some (.ref z)] := by kernel_rfl
theorem ref_ne_none (z : Addr) : (Value.ref z != Value.none) = true := by rfl
section
variable {prog : Program} {w : World} {A : Around} {E : Value → Shared → Prop} {h : Heap} {g : Array GenState} {d : Drawn} {t : Nat} {os : OsState} {z z0 : Addr}
theorem check_tz {M : Model} {Q : Unit → Shared → Prop} (hz : h.get? z = some (utcObj z0)) (hq : Q () ⟨h, g, d, t, os⟩) : wpAny M A (checkTzinfo (.ref z)) Q E ⟨h, g, d, t, os⟩ := by
  unfold checkTzinfo
  rw [ref_ne_none, if_pos rfl]
  refine wpAny_bind (wpAny_isInstance ⟨_, hz, rfl⟩ sub_tz_info ?_)
  exact KFB.if_not rfl (wpAny_pure hq)
theorem stamp_new {M : Model} {y mo dd hh mi ss : Int} {Q : Value → Shared → Prop} (hz : h.get? z = some (utcObj z0)) (h1 : 1 ≤ y) (h2 : y ≤ 9999) (h3 : 1 ≤ mo) (h4 : mo ≤ 12) (h5 : 1 ≤ dd) (h6 : dd ≤ daysInMonth y mo)
    (b1 : 0 ≤ hh) (b2 : hh ≤ 23) (b3 : 0 ≤ mi) (b4 : mi ≤ 59) (b5 : 0 ≤ ss) (b6 : ss ≤ 59)
    (hq : Q (.ref h.objs.size) ⟨h.push (dtObj y mo dd hh mi ss z), g, d, t, os⟩) :
    wpAny M A (newStampRaw (.type "datetime.datetime") { y, mo, d := dd, c := { h := hh, m := mi, s := ss, us := 0, tz := .ref z, fold := 0 } }) Q E ⟨h, g, d, t, os⟩ := by
  unfold newStampRaw checkDate checkTime
  repeat (any_goals (first | assumption | with_reducible refine check_tz hz ?_ | wp_step | walk_at "m if"))
theorem stamp_no {M : Model} {y mo dd hh mi ss : Int} {Q : Value → Shared → Prop} (hh' : A.handled = none) (h1 : 9999 < y) (h2 : y < 1000000)
    (hq : ∀ h' tk e, Heap.NewExc h h' e "ValueError" → E (.ref e) ⟨h', g, d, tk, os⟩) :
    wpAny M A (newStampRaw (.type "datetime.datetime") { y, mo, d := dd, c := { h := hh, m := mi, s := ss, us := 0, tz := .ref z, fold := 0 } }) Q E ⟨h, g, d, t, os⟩ := by
  unfold newStampRaw checkDate checkTime
  repeat (any_goals (first | assumption | ((with_reducible show wpAny _ _ (raiseErrorMade _ _) _ _ _); refine wpAny_raiseErrorMade plainExc_ValueError hh' ?_ (year_msg (y := y) (by omega) (by omega))) | wp_step | walk_at "m if"))
/-- a stamp of the zone utc, moved by nothing -/
theorem stampOf_dt {M : Model} {a : Addr} {y mo dd hh mi ss : Int} {Q : Stamp → Shared → Prop} (hx : h.get? a = some (dtObj y mo dd hh mi ss z))
    (hq : Q { y, mo, d := dd, c := { h := hh, m := mi, s := ss, us := 0, tz := .ref z, fold := 0 } } ⟨h, g, d, t, os⟩) : wpAny M A (stampOf (.ref a)) Q E ⟨h, g, d, t, os⟩ := by
  unfold stampOf stampOf? isDatetime fieldsOf
  refine wpAny_bind (wpAny_bind (wpAny_isInstance ⟨_, hx, rfl⟩ sub_dt_dt ?_))
  show wpAny M A (if (!true) = true then _ else _) _ _ _
  rw [if_neg (by decide)]
  refine wpAny_bind (wpAny_bind (wpAny_load hx ?_))
  exact wpAny_pure (wpAny_pure (wpAny_pure hq))
theorem moved_zero {M : Model} {a : Addr} {y mo dd hh mi ss : Int} {Q : Value → Shared → Prop} (hx : h.get? a = some (dtObj y mo dd hh mi ss z)) (hz : h.get? z = some (utcObj z0)) (h1 : 1 ≤ y) (h2 : y ≤ 9999) (h3 : 1 ≤ mo) (h4 : mo ≤ 12) (h5 : 1 ≤ dd) (h6 : dd ≤ daysInMonth y mo)
    (b1 : 0 ≤ hh) (b2 : hh ≤ 23) (b3 : 0 ≤ mi) (b4 : mi ≤ 59) (b5 : 0 ≤ ss) (b6 : ss ≤ 59) (ho1 : 1 ≤ toOrdinal y mo dd) (ho2 : toOrdinal y mo dd < 3652060) (hr : ofOrdinal (toOrdinal y mo dd) = (y, mo, dd))
    (hq : Q (.ref h.objs.size) ⟨h.push (dtObj y mo dd hh mi ss z), g, d, t, os⟩) : wpAny M A (movedStamp (.ref a) 0) Q E ⟨h, g, d, t, os⟩ := by
  unfold movedStamp
  refine wpAny_bind (stampOf_dt hx ?_)
  have e : (Stamp.us { y, mo, d := dd, c := { h := hh, m := mi, s := ss, us := 0, tz := .ref z, fold := 0 } } + 0) = (toOrdinal y mo dd * 86400 + hh * 3600 + mi * 60 + ss) * 1000000 := by
    unfold Stamp.us usPerSecond; dsimp only; omega
  have e2 : Stamp.ofUs ((toOrdinal y mo dd * 86400 + hh * 3600 + mi * 60 + ss) * 1000000) (.ref z) 0 = { y, mo, d := dd, c := { h := hh, m := mi, s := ss, us := 0, tz := .ref z, fold := 0 } } := by
    unfold Stamp.ofUs usPerDay
    have q1 : ((toOrdinal y mo dd * 86400 + hh * 3600 + mi * 60 + ss) * 1000000).fdiv 86400000000 = toOrdinal y mo dd := by
      rw [Int.fdiv_eq_ediv_of_nonneg _ (by decide)]; omega
    have q2 : ((toOrdinal y mo dd * 86400 + hh * 3600 + mi * 60 + ss) * 1000000).fmod 86400000000 = (hh * 3600 + mi * 60 + ss) * 1000000 := by
      rw [Int.fmod_eq_emod_of_nonneg _ (by decide)]; omega
    rw [q1, q2, hr]
    dsimp only
    congr 1
    congr 1 <;> omega
  dsimp only
  rw [e, e2]
  refine if_no ?_ ?_
  · unfold usPerDay
    simp only [Bool.or_eq_true, decide_eq_true_eq]; omega
  refine wpAny_bind (wpAny_typeOf (T := "datetime.datetime") ⟨_, hx, rfl⟩ ?_)
  unfold newStampOf
  refine if_yes (by rfl) ?_
  exact stamp_new hz h1 h2 h3 h4 h5 h6 b1 b2 b3 b4 b5 b6 hq
end
end Mine
end

section
open PySem PySem.W PyProof.Rows PySem.Calls
set_option maxHeartbeats 4000000
namespace Mine
open Sem (wp)
open PySem.Builtin._datetime
abbrev boundFu (z : Addr) : Obj := { cls := .type "builtin_function_or_method", data := .fields #[.builtin "datetime.timezone.fromutc", .ref z] }
theorem ga_tz : Slot "datetime.timezone" "__getattribute__" "object.__getattribute__" :=
  .of (owner := "object") (n := "__getattribute__") (by rw [typeLookup_type, builtinLookup_eq_fast]; kernel_rfl) (by decide +kernel) (by decide +kernel) (by decide +kernel)
    (by first | exact .inl (by decide +kernel) | exact .inr (by decide +kernel)) (by rw [isSubtype_type]; kernel_rfl)
theorem lk_fu : typeLookup (.type "datetime.timezone") "fromutc" = pure (some (.builtin "datetime.timezone.fromutc")) := by rw [typeLookup_type, builtinLookup_eq_fast]; kernel_rfl
theorem ty_fu : typeOf (.builtin "datetime.timezone.fromutc") = pure (.type "method_descriptor") := by kernel_rfl
theorem slot_md : Slot "method_descriptor" "__get__" "method_descriptor.__get__" :=
  .of (owner := "method_descriptor") (n := "__get__") (by rw [typeLookup_type, builtinLookup_eq_fast]; kernel_rfl) (by decide +kernel) (by decide +kernel) (by decide +kernel)
    (by first | exact .inl (by decide +kernel) | exact .inr (by decide +kernel)) (by rw [isSubtype_type]; kernel_rfl)
theorem md_set : typeLookup (.type "method_descriptor") "__set__" = pure none := by rw [typeLookup_type, builtinLookup_eq_fast]; kernel_rfl
theorem md_del : typeLookup (.type "method_descriptor") "__delete__" = pure none := by rw [typeLookup_type, builtinLookup_eq_fast]; kernel_rfl
theorem entry_md : entryFor table "method_descriptor.__get__" = some Builtin.«method_descriptor.__get__» := entryFor_of_tree (by kernel_rfl)
theorem args_md (a b c : Value) : argsOk "method_descriptor.__get__" ⟨[a, b, c], []⟩ := by unfold argsOk; kernel_rfl
theorem owner_fu : (kfb_private% "ownerAndName") "datetime.timezone.fromutc" = ("datetime.timezone", "fromutc") := by first | decide +kernel | kernel_rfl
theorem told_fu : Manifest.toldItsClass.contains "datetime.timezone.fromutc" = false := by decide +kernel
theorem sub_tz_tz : isSubtype (.type "datetime.timezone") (.type "datetime.timezone") = pure true := by rw [isSubtype_type]; kernel_rfl
section
variable {prog : Program} {w : World} {A : Around} {E : Value → Shared → Prop} {h : Heap} {g : Array GenState} {d : Drawn} {t : Nat} {os : OsState} {z z0 : Addr}
theorem md_get {R : Result → Shared → Prop} (hz : h.get? z = some (utcObj z0)) (hq : R (.ok (.ret (.ref h.objs.size))) ⟨h.push (boundFu z), g, d, t, os⟩) :
    codeAny (model prog w) A (.call (.builtin "method_descriptor.__get__") ⟨[.builtin "datetime.timezone.fromutc", .ref z, .type "datetime.timezone"], []⟩) R ⟨h, g, d, t, os⟩ := by
  have hT : (⟨h, g, d, t, os⟩ : Shared).TypeIs (.ref z) "datetime.timezone" := ⟨_, hz, rfl⟩
  refine codeAny_call_builtin slot_md.plain entry_md (slot_md.check _ _ _ _ _ _ _ _ (show Shared.TypeIs _ (.builtin "datetime.timezone.fromutc") "method_descriptor" from ty_fu) (args_md _ _ _) ?_)
  unfold Builtin.«method_descriptor.__get__»
  refine wpAny_bind (wpAny_of_eq (a := (.builtin "datetime.timezone.fromutc", some (.ref z), some (.type "datetime.timezone"))) (by first | rfl | kernel_rfl) ?_)
  dsimp only
  refine KFB.if_not told_fu ?_
  wp_delta
  refine wpAny_bind ?_
  wp_delta
  refine wpAny_bind (m := _) (wpAny_of_eq (a := (("fromutc" : Str), Value.type "datetime.timezone")) ?_ ?_)
  · kernel_rfl
  dsimp only
  refine wpAny_bind (wpAny_isInstance hT sub_tz_tz ?_)
  refine KFB.if_not rfl (wpAny_pure ?_)
  exact wpAny_bind (wpAny_newObj_type (wpAny_pure hq))
theorem fu_entry {tn : Tok} {Q : Fin → Shared → Prop} (hz : h.get? z = some (utcObj z0)) (hq : Q (.done (.ret (.ref h.objs.size))) ⟨h.push (boundFu z), g, d, t, os⟩) :
    wpAny (model prog w) A (Builtin.«object.__getattribute__» ⟨[.ref z, .str "fromutc" tn], []⟩) Q E ⟨h, g, d, t, os⟩ := by
  have hT : (⟨h, g, d, t, os⟩ : Shared).TypeIs (.ref z) "datetime.timezone" := ⟨_, hz, rfl⟩
  have hT5 : (⟨h, g, d, t, os⟩ : Shared).TypeIs (.builtin "datetime.timezone.fromutc") "method_descriptor" := ty_fu
  have f4 := lk_fu
  have f5 := ty_fu
  have f6 := slot_md.lookup
  have f7 := md_set
  have f8 := md_del
  repeat (any_goals (first | assumption | wp_step))
  exact md_get hz (wpAny_pure hq)
theorem fu_attr {Q : Value → Shared → Prop} (hz : h.get? z = some (utcObj z0)) (hq : Q (.ref h.objs.size) ⟨h.push (boundFu z), g, d, t + 1, os⟩) :
    wpAny (model prog w) A (getAttr (.ref z) "fromutc") Q E ⟨h, g, d, t, os⟩ := by
  have hT : (⟨h, g, d, t + 1, os⟩ : Shared).TypeIs (.ref z) "datetime.timezone" := ⟨_, hz, rfl⟩
  refine wpAny_bind (wpAny_mkText (wpAny_holding (wpAny_bind (wpAny_typeOf hT (wpAny_bind (wpAny_of_eq ga_tz.lookup ?_))))))
  dsimp only
  rw [if_neg (by decide +kernel)]
  refine wpAny_bind (m := hookBefore (.type "datetime.timezone")) (wpAny_of_eq (a := none) rfl ?_)
  refine wpAny_bind (wpAny_attempt (wpAny_holding ?_))
  unfold callGetattribute
  rw [if_neg (by decide)]
  unfold boundAndCalled
  rw [ga_tz.bind]
  refine wpAny_bind (wpAny_pure ?_)
  show wpAny _ _ (call (.builtin "object.__getattribute__") [.ref z, .str "fromutc" t]) _ _ _
  refine wpAny_call (codeAny_call_builtin ga_tz.plain entry_ga (ga_tz.check _ _ _ _ _ _ _ _ hT (args_ga _ _) (fu_entry hz ?_)))
  show wpAny _ _ (handedOut (.ref _)) _ _ _
  rw [handed_ref]
  exact wpAny_pure hq
theorem check_fu {a : Addr} : checkBoundCall "datetime.timezone.fromutc" ⟨[.ref z, .ref a], []⟩ = checkBoundCall "datetime.timezone.fromutc" ⟨[.ref z, .ref a], []⟩ := rfl
end
end Mine
end

section
open PySem PySem.W PyProof.Rows PySem.Calls
set_option maxHeartbeats 4000000
namespace Mine
open Sem (wp)
open PySem.Builtin._datetime
theorem quiet_fu {as : Args} : (Code.builtin "datetime.timezone.fromutc" as).quiet = true := Code.quiet_builtin _ (by decide +kernel)
theorem quiet_add {as : Args} : (Code.builtin "datetime.datetime.__add__" as).quiet = true := Code.quiet_builtin _ (by decide +kernel)
theorem entry_fu : entryFor table "datetime.timezone.fromutc" = some Builtin.«datetime.timezone.fromutc» := entryFor_of_tree (by kernel_rfl)
theorem entry_add : entryFor table "datetime.datetime.__add__" = some Builtin.«datetime.datetime.__add__» := entryFor_of_tree (by kernel_rfl)
theorem peek_fu (S : Setting) (a : Addr) : peek [(39, utcObj 38)] S (checkBoundCall "datetime.timezone.fromutc" ⟨[.ref 39, .ref a], []⟩) = some () := by kernel_rfl
theorem sub_td_td : isSubtype (.type "datetime.timedelta") (.type "datetime.timedelta") = pure true := by rw [isSubtype_type]; kernel_rfl
section
variable {prog : Program} {w : World} {A : Around} {E : Value → Shared → Prop} {h : Heap} {g : Array GenState} {d : Drawn} {t : Nat} {os : OsState}
theorem deltaUs_zero {M : Model} {Q : Option Int → Shared → Prop} (hz0 : h.get? 38 = some zeroObj) (hq : Q (some 0) ⟨h, g, d, t, os⟩) : wpAny M A (deltaUs? (.ref 38)) Q E ⟨h, g, d, t, os⟩ := by
  unfold deltaUs? deltaParts? fieldsOf
  refine wpAny_bind (wpAny_bind (wpAny_isInstance ⟨_, hz0, rfl⟩ sub_td_td ?_))
  show wpAny M A (if (!true) = true then _ else _) _ _ _
  rw [if_neg (by decide)]
  refine wpAny_bind (wpAny_bind (wpAny_load hz0 ?_))
  exact wpAny_pure (wpAny_pure (wpAny_pure hq))
theorem add_run {a : Addr} {y mo dd hh mi ss : Int} {P : Fin → Shared → Prop} (hx : h.get? a = some (dtObj y mo dd hh mi ss 39)) (hz : h.get? 39 = some (utcObj 38)) (hz0 : h.get? 38 = some zeroObj) (h1 : 1 ≤ y) (h2 : y ≤ 9999) (h3 : 1 ≤ mo) (h4 : mo ≤ 12) (h5 : 1 ≤ dd) (h6 : dd ≤ daysInMonth y mo)
    (b1 : 0 ≤ hh) (b2 : hh ≤ 23) (b3 : 0 ≤ mi) (b4 : mi ≤ 59) (b5 : 0 ≤ ss) (b6 : ss ≤ 59) (ho1 : 1 ≤ toOrdinal y mo dd) (ho2 : toOrdinal y mo dd < 3652060) (hr : ofOrdinal (toOrdinal y mo dd) = (y, mo, dd))
    (hq : P (.done (.ret (.ref h.objs.size))) ⟨h.push (dtObj y mo dd hh mi ss 39), g, d, t, os⟩) :
    wpAny (model prog w) A (Builtin.«datetime.datetime.__add__» ⟨[.ref a, .ref 38], []⟩) P E ⟨h, g, d, t, os⟩ := by
  unfold Builtin.«datetime.datetime.__add__»
  wp_delta
  refine wpAny_bind (wpAny_of_eq (a := (.ref a, [.ref 38])) (by kernel_rfl) ?_)
  dsimp only
  refine wpAny_bind ?_
  wp_delta
  refine wpAny_bind (m := isDatetime (.ref a)) (wpAny_isInstance ⟨_, hx, rfl⟩ sub_dt_dt ?_)
  refine KFB.if_so rfl ?_
  refine wpAny_bind (deltaUs_zero hz0 ?_)
  dsimp only
  refine moved_zero hx hz h1 h2 h3 h4 h5 h6 b1 b2 b3 b4 b5 b6 ho1 ho2 hr ?_
  exact wpAny_pure hq
theorem fu_call {q a : Addr} {y mo dd hh mi ss : Int} {Q : Value → Shared → Prop} (hb : h.get? q = some (boundFu 39)) (hx : h.get? a = some (dtObj y mo dd hh mi ss 39)) (hz : h.get? 39 = some (utcObj 38)) (hz0 : h.get? 38 = some zeroObj) (h1 : 1 ≤ y) (h2 : y ≤ 9999) (h3 : 1 ≤ mo) (h4 : mo ≤ 12) (h5 : 1 ≤ dd) (h6 : dd ≤ daysInMonth y mo)
    (b1 : 0 ≤ hh) (b2 : hh ≤ 23) (b3 : 0 ≤ mi) (b4 : mi ≤ 59) (b5 : 0 ≤ ss) (b6 : ss ≤ 59) (ho1 : 1 ≤ toOrdinal y mo dd) (ho2 : toOrdinal y mo dd < 3652060) (hr : ofOrdinal (toOrdinal y mo dd) = (y, mo, dd))
    (hq : Q (.ref h.objs.size) ⟨h.push (dtObj y mo dd hh mi ss 39), g, d, t, os⟩) :
    wpAny (model prog w) A (call (.ref q) [.ref a]) Q E ⟨h, g, d, t, os⟩ := by
  have X : Frag.In [(39, utcObj 38)] h := by
    intro b o e
    by_cases hb : b = 39
    · subst hb; cases e; exact hz
    · rw [List.lookup_cons, beq_eq_false_iff_ne.mpr hb] at e; cases e
  refine wpAny_call (codeAny_of_tree ?_)
  show wpAny _ A.in1 (callAny (.ref q) ⟨[.ref a], []⟩) _ _ _
  simp only [callAny]
  refine wpAny_bind (wpAny_load hb ?_)
  simp only [show (Value.type "builtin_function_or_method" == Value.type "method" || Value.type "builtin_function_or_method" == Value.type "builtin_function_or_method" || Value.type "builtin_function_or_method" == Value.type "method-wrapper") = true by decide, if_true]
  refine KFB.if_so (by decide) ?_
  refine wpAny_bind ((Looks.of_peek X (peek_fu _ a)).here ?_)
  refine wpAny_bind (wpAny_pure (wpAny_pure ?_))
  refine ⟨quiet_fu, codeAny_builtin entry_fu ?_⟩
  unfold Builtin.«datetime.timezone.fromutc»
  refine wpAny_bind (wpAny_of_eq (a := (.ref 39, .ref a)) (by kernel_rfl) ?_)
  dsimp only
  refine wpAny_bind (m := isDatetime (.ref a)) (wpAny_isInstance ⟨_, hx, rfl⟩ sub_dt_dt ?_)
  refine KFB.if_not rfl ?_
  refine wpAny_bind (wpAny_field hx rfl rfl ?_)
  refine KFB.if_not rfl ?_
  refine wpAny_bind (wpAny_field hz rfl rfl ?_)
  refine wpAny_pure ⟨quiet_add, codeAny_builtin entry_add ?_⟩
  exact add_run hx hz hz0 h1 h2 h3 h4 h5 h6 b1 b2 b3 b4 b5 b6 ho1 ho2 hr hq
end
end Mine
end

section
open PySem PySem.W PyProof.Rows PySem.Calls
set_option maxHeartbeats 4000000
namespace Mine
open Sem (wp)
open PySem.Builtin._datetime
open PySem.Builtin.Time (timeBroken)
section
variable {prog : Program} {w : World} {A : Around} {E : Value → Shared → Prop} {h : Heap} {g : Array GenState} {d : Drawn} {t : Nat} {os : OsState} {n : Int} {t1 : Tok} {y mo dd hh mi ss wd yd : Int}
theorem ask_ {M : Model} {s : Shared} {Q : Setting → Shared → Prop} (hq : Q ⟨M.prog, M.w.params⟩ s) : wpAny M A ask Q E s := fun Γ p _ => by
  show wp M Γ (Sem.ask .pure) _ _ p s
  rw [Sem.wp_ask]
  exact hq
theorem shownYear (h1 : 0 ≤ y) (h2 : y < 1000000) : dtShownYear y = pure y := by
  unfold dtShownYear
  have a1 : (decide (y - 1900 ≥ 2 ^ 31) || decide (y - 1900 < -(2 ^ 31 : Int))) = false := by simp only [Bool.or_eq_false_iff, decide_eq_false_iff_not]; omega
  have a2 : ¬ y ≥ 2 ^ 31 := by omega
  rw [a1, if_neg a2]
  rfl
theorem stampAt {M : Model} {Q : Value → Shared → Prop} (hb : timeBroken n 0 = (y, [mo, dd, hh, mi, ss, wd, yd])) (hy1 : 1 ≤ y) (hy2 : y < 1000000) (b6 : ss ≤ 59)
    (hq : wpAny M A (newStampRaw (.type "datetime.datetime") { y, mo, d := dd, c := { h := hh, m := mi, s := ss, us := 0, tz := .ref 39, fold := 0 } }) Q E ⟨h, g, d, t, os⟩) :
    wpAny M A (stampAtMoment (.type "datetime.datetime") true n 0 (.ref 39)) Q E ⟨h, g, d, t, os⟩ := by
  unfold stampAtMoment
  refine wpAny_bind (ask_ ?_)
  dsimp only
  rw [if_pos rfl, hb]
  dsimp only
  rw [shownYear (by omega) hy2, Int.min_eq_right b6]
  refine wpAny_bind (wpAny_pure ?_)
  refine KFB.if_not rfl ?_
  unfold newStampOf
  exact if_yes (by rfl) hq
theorem ft_run {P : Fin → Shared → Prop} (hh' : A.handled = none) (hz : h.get? 39 = some (utcObj 38)) (hz0 : h.get? 38 = some zeroObj) (h1 : -9223372036854775808 ≤ n) (h2 : n < 9223372036854775808)
    (hb : timeBroken n 0 = (y, [mo, dd, hh, mi, ss, wd, yd])) (hy1 : 1 ≤ y) (hy2 : y < 1000000) (h3 : 1 ≤ mo) (h4 : mo ≤ 12) (h5 : 1 ≤ dd) (h6 : dd ≤ daysInMonth y mo)
    (b1 : 0 ≤ hh) (b2 : hh ≤ 23) (b3 : 0 ≤ mi) (b4 : mi ≤ 59) (b5 : 0 ≤ ss) (b6 : ss ≤ 59) (ho1 : 1 ≤ toOrdinal y mo dd) (ho2 : y ≤ 9999 → toOrdinal y mo dd < 3652060) (hr : ofOrdinal (toOrdinal y mo dd) = (y, mo, dd))
    (hok : y ≤ 9999 → ∀ tk, P (.done (.ret (.ref (h.objs.size + 2)))) ⟨((h.push (dtObj y mo dd hh mi ss 39)).push (boundFu 39)).push (dtObj y mo dd hh mi ss 39), g, d, tk, os⟩)
    (hno : 9999 < y → ∀ h' tk e, Heap.NewExc h h' e "ValueError" → E (.ref e) ⟨h', g, d, tk, os⟩) :
    wpAny (model prog w) A (Builtin.«datetime.datetime.fromtimestamp» ⟨[.type "datetime.datetime", .int n t1], [("tz", .ref 39)]⟩) P E ⟨h, g, d, t, os⟩ := by
  unfold Builtin.«datetime.datetime.fromtimestamp»
  refine wpAny_bind (wpAny_of_eq (a := (.type "datetime.datetime", [.int n t1])) (by kernel_rfl) ?_)
  dsimp only
  refine wpAny_bind (wpAny_of_eq (bind_ft n t1 39) ?_)
  dsimp only
  refine wpAny_bind (check_tz hz ?_)
  refine wpAny_bind ?_
  wp_delta
  refine wpAny_bind (wpAny_of_eq (a := none) rfl ?_)
  dsimp only
  refine wpAny_bind (wpAny_attempt (wpAny_of_eq (a := n) rfl ?_))
  dsimp only
  refine if_no ?_ (wpAny_pure ?_)
  · simp only [Bool.or_eq_true, decide_eq_true_eq]; omega
  dsimp only
  wp_delta
  refine wpAny_bind ?_
  show wpAny _ _ (stampAtMoment (.type "datetime.datetime") true n 0 (.ref 39)) _ _ _
  refine stampAt hb hy1 hy2 b6 ?_
  by_cases hy : y ≤ 9999
  · refine stamp_new hz hy1 hy h3 h4 h5 h6 b1 b2 b3 b4 b5 b6 ?_
    refine KFB.if_not rfl ?_
    refine wpAny_bind (wpAny_holding (wpAny_bind ?_))
    have hz' := Heap.get?_push_of_some (dtObj y mo dd hh mi ss 39) hz
    have hz0' := Heap.get?_push_of_some (dtObj y mo dd hh mi ss 39) hz0
    have hx : (h.push (dtObj y mo dd hh mi ss 39)).get? h.objs.size = some (dtObj y mo dd hh mi ss 39) := Heap.get?_push_size _ rfl
    refine fu_attr hz' ?_
    have hz2 := Heap.get?_push_of_some (boundFu 39) hz'
    have hz02 := Heap.get?_push_of_some (boundFu 39) hz0'
    have hx2 := Heap.get?_push_of_some (boundFu 39) hx
    refine fu_call (Heap.get?_push_size _ rfl) hx2 hz2 hz02 hy1 hy h3 h4 h5 h6 b1 b2 b3 b4 b5 b6 ho1 (ho2 hy) hr ?_
    have e : ((h.push (dtObj y mo dd hh mi ss 39)).push (boundFu 39)).objs.size = h.objs.size + 2 := by
      rw [Heap.size_push, Heap.size_push]
    rw [e]
    exact wpAny_pure (hok hy _)
  · exact stamp_no hh' (by omega) hy2 (hno (by omega))
end
end Mine
end

section
open PySem PySem.W PyProof.Rows PySem.Calls
set_option maxHeartbeats 4000000
namespace Mine
open Sem (wp)
open PySem.Builtin._datetime
open PySem.Builtin.Time (timeBroken timeCivil)
theorem check_ft (n : Int) (t1 : Tok) : checkBoundCall "datetime.datetime.fromtimestamp" ⟨[.type "datetime.datetime", .int n t1], [("tz", .ref 39)]⟩ = pure () := by first | kernel_rfl | rfl
/-- a day and a clock -/
structure Valid (y mo dd hh mi ss : Int) : Prop where
  y1 : 1 ≤ y
  y2 : y ≤ 10000
  m1 : 1 ≤ mo
  m2 : mo ≤ 12
  d1 : 1 ≤ dd
  d2 : dd ≤ daysInMonth y mo
  h1 : 0 ≤ hh
  h2 : hh ≤ 23
  i1 : 0 ≤ mi
  i2 : mi ≤ 59
  s1 : 0 ≤ ss
  s2 : ss ≤ 59
/-- the moment of a day and a clock -/
def momentOf (y mo dd hh mi ss : Int) : Int := (toOrdinal y mo dd - 719163) * 86400 + hh * 3600 + mi * 60 + ss
/-- what the calendar says -/
structure CalOk : Prop where
  inv : ∀ y mo dd, 1 ≤ y → y ≤ 10000 → 1 ≤ mo → mo ≤ 12 → 1 ≤ dd → dd ≤ daysInMonth y mo → timeCivil (toOrdinal y mo dd - 719163) = (y, mo, dd)
  lo : ∀ y mo dd, 1 ≤ y → y ≤ 10000 → 1 ≤ mo → mo ≤ 12 → 1 ≤ dd → dd ≤ daysInMonth y mo → 1 ≤ toOrdinal y mo dd ∧ toOrdinal y mo dd < 4000000
  hi : ∀ y mo dd, 1 ≤ y → y ≤ 9999 → 1 ≤ mo → mo ≤ 12 → 1 ≤ dd → dd ≤ daysInMonth y mo → toOrdinal y mo dd < 3652060
theorem broken {y mo dd hh mi ss : Int} (C : CalOk) (V : Valid y mo dd hh mi ss) : ∃ wd yd, timeBroken (momentOf y mo dd hh mi ss) 0 = (y, [mo, dd, hh, mi, ss, wd, yd]) := by
  have h := C.inv y mo dd V.y1 V.y2 V.m1 V.m2 V.d1 V.d2
  have v1 := V.h1; have v2 := V.h2; have v3 := V.i1; have v4 := V.i2; have v5 := V.s1; have v6 := V.s2
  unfold momentOf timeBroken
  generalize toOrdinal y mo dd - 719163 = z at h ⊢
  have q1 : ((z * 86400 + hh * 3600 + mi * 60 + ss) + 0).fdiv 86400 = z := by
    rw [Int.fdiv_eq_ediv_of_nonneg _ (by decide)]; omega
  have q2 : ((z * 86400 + hh * 3600 + mi * 60 + ss) + 0).fmod 86400 = hh * 3600 + mi * 60 + ss := by
    rw [Int.fmod_eq_emod_of_nonneg _ (by decide)]; omega
  have e1 : (hh * 3600 + mi * 60 + ss) / 3600 = hh := by omega
  have e2 : (hh * 3600 + mi * 60 + ss) % 3600 / 60 = mi := by omega
  have e3 : (hh * 3600 + mi * 60 + ss) % 60 = ss := by omega
  dsimp only
  rw [q1, q2, h]
  dsimp only
  rw [e1, e2, e3]
  exact ⟨_, _, rfl⟩
section
variable {prog : Program} {w : World} {A : Around} {E : Value → Shared → Prop} {s : Shared} {K : Frag} {h₀ : Heap} {L u : Addr} {m : Str → Option Value} {news : List (Addr × Obj)} {y mo dd hh mi ss : Int} {t1 : Tok} {n : Int} {Q : Value → Shared → Prop}
theorem ft_call (C : CalOk) (F : Fr h₀ L s.heap m) (N : News h₀ L s.heap news) (X₀ : K.In h₀) (hu : (u, boundFt) ∈ news) (k39 : K.lookup 39 = some (utcObj 38)) (k38 : K.lookup 38 = some zeroObj) (hh' : A.handled = none)
    (V : Valid y mo dd hh mi ss) (hn : n = momentOf y mo dd hh mi ss)
    (hok : y ≤ 9999 → ∀ q h' tk, Fr h₀ L h' m → News h₀ L h' ((q, dtObj y mo dd hh mi ss 39) :: news) → (∀ p ∈ news, p.1 < q) → Q (.ref q) { s with heap := h', toks := tk })
    (hno : 9999 < y → ∀ h' tk e, Heap.NewExc s.heap h' e "ValueError" → E (.ref e) { s with heap := h', toks := tk }) :
    wpAny (model prog w) A (call (.ref u) [.int n t1] [("tz", .ref 39)]) Q E s := by
  have X := X₀.keeps F.keep
  have ho := N.get hu
  obtain ⟨wd, yd, hb⟩ := broken C V
  have l1 := C.lo y mo dd V.y1 V.y2 V.m1 V.m2 V.d1 V.d2
  have v1 := V.h1; have v2 := V.h2; have v3 := V.i1; have v4 := V.i2; have v5 := V.s1; have v6 := V.s2; have v7 := V.y2
  rw [← hn] at hb
  have hn1 : -9223372036854775808 ≤ n ∧ n < 9223372036854775808 := by unfold momentOf at hn; omega
  have hinv : ofOrdinal (toOrdinal y mo dd) = (y, mo, dd) := C.inv y mo dd V.y1 V.y2 V.m1 V.m2 V.d1 V.d2
  refine wpAny_call (codeAny_of_tree ?_)
  show wpAny _ A.in1 (callAny (.ref u) ⟨[.int n t1], [("tz", .ref 39)]⟩) _ _ s
  simp only [callAny]
  refine wpAny_bind (wpAny_load ho ?_)
  simp only [show (Value.type "builtin_function_or_method" == Value.type "method" || Value.type "builtin_function_or_method" == Value.type "builtin_function_or_method" || Value.type "builtin_function_or_method" == Value.type "method-wrapper") = true by decide, if_true]
  refine KFB.if_so (by decide) ?_
  refine wpAny_bind (wpAny_of_eq (a := ()) (check_ft n t1) ?_)
  refine wpAny_bind (wpAny_pure (wpAny_pure ?_))
  refine ⟨quiet_ft, codeAny_builtin entry_ft ?_⟩
  obtain ⟨h, g, d, t, os⟩ := s
  refine ft_run hh' (X _ _ k39) (X _ _ k38) hn1.1 hn1.2 hb V.y1 (by omega) V.m1 V.m2 V.d1 V.d2 V.h1 V.h2 V.i1 V.i2 V.s1 V.s2 l1.1 (fun hy => C.hi y mo dd V.y1 hy V.m1 V.m2 V.d1 V.d2) hinv (fun hy tk => ?_) (fun hy h' tk e x => hno hy h' tk e x)
  have N1 := N.push F (dtObj y mo dd hh mi ss 39)
  have F1 := F.push (dtObj y mo dd hh mi ss 39)
  have N2 := N1.push F1 (boundFu 39)
  have F2 := F1.push (boundFu 39)
  have N3 := N2.push F2 (dtObj y mo dd hh mi ss 39)
  have F3 := F2.push (dtObj y mo dd hh mi ss 39)
  have e : ((h.push (dtObj y mo dd hh mi ss 39)).push (boundFu 39)).objs.size = h.objs.size + 2 := by
    rw [Heap.size_push, Heap.size_push]
  refine hok hy (h.objs.size + 2) _ tk F3 (fun p hp => ?_) (fun p hp => ?_)
  · rw [e] at N3
    rcases List.mem_cons.mp hp with rfl | hp
    · exact N3 _ (.head _)
    · exact N3 _ (.tail _ (.tail _ (.tail _ hp)))
  · have := Heap.lt_size (N p hp).1
    exact Nat.lt_of_lt_of_le this (Nat.le_add_right _ _)
end
end Mine
end

section
open PySem PySem.W PyProof.Rows PySem.Calls
set_option maxHeartbeats 4000000
namespace Mine
open PySem.Builtin.Range
theorem place1 (a b n : Int) : (rangePlace? a b 1 n).isSome = decide (a ≤ n ∧ n < b) := by
  unfold rangePlace?
  have e0 : ((1 : Int) > 0) = True := by simp
  have e1 : (n - a) % 1 = 0 := by omega
  simp only [e0, e1, if_true]
  by_cases h1 : a ≤ n <;> by_cases h2 : n < b <;> simp [h1, h2]
section
variable {prog : Program} {w : World} {A : Around} {E : Value → Shared → Prop} {s : Shared}
theorem contains_meets {r : Addr} {a b n : Int} {t t1 t2 t3 : Tok} : Meets (PySem.Builtin.«range.__contains__» ⟨[.ref r, .int n t], []⟩)
    (fun _ R s => s.heap.get? r = some { cls := .type "range", data := .fields #[.int a t1, .int b t2, .int 1 t3] } ∧ R (.ok (.ret (.bool (decide (a ≤ n ∧ n < b))))) s) := by
  refine Meets.of_wp fun prog w A R s hs => ?_
  obtain ⟨ho, hr⟩ := hs
  unfold PySem.Builtin.«range.__contains__»
  refine wpAny_bind (wpAny_of_eq (a := (.ref r, [.int n t])) (by kernel_rfl) ?_)
  dsimp only [rangeExactInt?]
  refine wpAny_bind (wpAny_rule ?_)
  unfold rangeFields
  refine wpAny_bind (wpAny_bind (wpAny_field ho rfl rfl ?_))
  refine wpAny_bind (wpAny_of_eq (a := some a) rfl ?_)
  refine wpAny_bind (wpAny_field ho rfl rfl ?_)
  refine wpAny_bind (wpAny_of_eq (a := some b) rfl ?_)
  refine wpAny_bind (wpAny_field ho rfl rfl ?_)
  refine wpAny_bind (wpAny_of_eq (a := some 1) rfl ?_)
  refine wpAny_pure ?_
  dsimp only
  rw [place1]
  exact wpAny_pure ⟨_, rfl, hr⟩
theorem in_range {r : Addr} {a b n : Int} {t t1 t2 t3 : Tok} {Q : Value → Shared → Prop} (hr : s.heap.get? r = some { cls := .type "range", data := .fields #[.int a t1, .int b t2, .int 1 t3] }) (h : Q (.bool (decide (a ≤ n ∧ n < b))) s) : wpAny (model prog w) A (compareOp .In (.int n t) (.ref r)) Q E s :=
  PySem.SeqRoads2.in_meets ⟨_, hr, rfl⟩ F.slot_range_contains F.entry_range_contains (F.args_range_contains_2 _ _) contains_meets ⟨hr, _, rfl, h⟩
end
end Mine
end

section
open PySem PySem.W PyProof.Rows PySem.Calls
set_option maxHeartbeats 4000000
namespace Mine
abbrev tupObj (vs : List Value) : Obj := { cls := .type "tuple", data := .seq vs.toArray }
abbrev lstObj (vs : List Value) : Obj := { cls := .type "list", data := .seq vs.toArray }
theorem adjust6 (n : Nat) (hn : 6 ≤ n) : Builtin.Slice.sliceAdjust none (some 6) 1 (n : Int) = (0, 6) := by
  unfold Builtin.Slice.sliceAdjust
  have h1 : ¬ ((1 : Int) < 0) := by omega
  have h2 : ¬ ((6 : Int) < 0) := by omega
  simp only [h1, h2, if_false]
  congr 1
  omega
section
variable {prog : Program} {w : World} {A : Around} {E : Value → Shared → Prop} {s : Shared} {h₀ : Heap} {L : Addr} {m : Str → Option Value} {news : List (Addr × Obj)}
theorem applied6 {sl : Addr} {n : Nat} {u : Tok} {Q : Int × Int × Nat → Shared → Prop} (hs : s.heap.IsSliceOf sl .none (.int 6 u) .none) (hn : 6 ≤ n) (h : Q (0, 1, 6) s) :
    wpAny (model prog w) A (Builtin.Slice.sliceApplied (.ref sl) (pure (n : Int))) Q E s := by
  obtain ⟨os, hos, hcs, hds⟩ := id hs
  unfold Builtin.Slice.sliceApplied Builtin.Slice.sliceFields
  refine wpAny_bind (wpAny_bind (wpAny_field hos hds (x := .none) rfl (wpAny_bind (wpAny_field hos hds (x := .int 6 u) rfl (wpAny_bind (wpAny_field hos hds (x := .none) rfl (wpAny_pure ?_)))))))
  refine wpAny_bind (slicePart_none ?_)
  show wpAny _ _ (if ((1 : Int) == 0) = true then _ else _) _ _ s
  rw [if_neg (by decide)]
  refine wpAny_bind (slicePart_none (wpAny_bind (slicePart_int (wpAny_bind (wpAny_pure ?_)))))
  show wpAny _ _ (match Builtin.Slice.sliceAdjust none (some 6) 1 (n : Int) with | (lo, hi) => pure (lo, (1 : Int), Builtin.Slice.slicePlaces lo hi 1)) _ _ s
  rw [adjust6 n hn]
  exact wpAny_pure h
theorem pick6 (six rest : List Value) (h6 : six.length = 6) : ((List.range 6).filterMap fun (k : Nat) => (six ++ rest).toArray[((0 : Int) + (k : Int) * 1).toNat]?).toArray = six.toArray := by
  obtain ⟨a, b, c, d, e, f, rfl⟩ : ∃ a b c d e f, six = [a, b, c, d, e, f] := by
    match six, h6 with
    | [a, b, c, d, e, f], _ => exact ⟨a, b, c, d, e, f, rfl⟩
  rfl
theorem getItem6 {t sl : Addr} {six rest : List Value} {u : Tok} {Q : Value → Shared → Prop} (h6 : six.length = 6) (hr : rest.length ≤ 100) (ht : s.heap.get? t = some (tupObj (six ++ rest))) (hs : s.heap.IsSliceOf sl .none (.int 6 u) .none)
    (h0 : rest = [] → Q (.ref t) s) (h : Q (.ref s.heap.objs.size) { s with heap := s.heap.push (tupObj six) }) : wpAny (model prog w) A (getItem (.ref t) (.ref sl)) Q E s := by
  have hT : IsTup s.heap t (six ++ rest).toArray := ⟨_, ht, rfl, 0, rfl⟩
  have hsz : (six ++ rest).toArray.size = 6 + rest.length := by rw [List.size_toArray, List.length_append, h6]
  obtain ⟨os, hos, hcs, hds⟩ := id hs
  have hTs : s.TypeIs (.ref sl) "slice" := ⟨os, hos, hcs⟩
  unfold getItem
  try with_reducible refine wpAny_holding ?_
  first | refine wpAny_bind (wpAny_pure ?_) | skip
  refine wpAny_bind (wpAny_sequenceKey hT.typeIs (by decide) ?_)
  refine wpAny_bind (wpAny_callSpecial?_slot (name := Str.ofString "__getitem__") hT.typeIs slot_tuple_getitem
    (wpAny_call_entry slot_tuple_getitem hT.typeIs entry_tuple_getitem ?_ (args_tuple_getitem _ _)))
  show wpAny _ _ (Builtin.Tuple.tupleItemsOf (.ref t) >>= _) _ _ s
  refine wpAny_bind (tupleItemsOf_ hT ?_)
  refine wpAny_bind (wpAny_typeOf hTs ?_)
  rw [if_pos (by decide)]
  refine wpAny_bind (applied6 hs (by rw [hsz]; omega) ?_)
  show wpAny _ _ (if ((0 : Int) == 0 && (1 : Int) == 1 && 6 == (six ++ rest).toArray.size) = true then _ else _) _ _ s
  by_cases he : rest = []
  · have e1 : ((0 : Int) == 0 && (1 : Int) == 1 && 6 == (six ++ rest).toArray.size) = true := by rw [hsz, he]; rfl
    rw [if_pos e1]
    refine wpAny_bind (wpAny_bind (wpAny_typeOf hT.typeIs (wpAny_pure ?_)))
    refine KFB.if_so rfl ?_
    refine wpAny_bind (wpAny_rule ?_)
    exact wpAny_pure ⟨_, rfl, wpAny_pure (h0 he)⟩
  · have e1 : ¬ ((0 : Int) == 0 && (1 : Int) == 1 && 6 == (six ++ rest).toArray.size) = true := by
      have : 0 < rest.length := List.length_pos_iff.mpr he
      rw [hsz]; simp; omega
    rw [if_neg e1, pick6 six rest h6]
    have hz : sizeOk (.seq six.toArray) := by
      show six.toArray.size ≤ sizeLine
      rw [List.size_toArray, h6]; decide
    first
    | exact wpAny_bind (m := Builtin.Tuple.tupleExact _) (wpAny_newObj_type (wpAny_pure ⟨_, rfl, wpAny_pure h⟩) hz)
    | exact wpAny_bind (m := Builtin.Tuple.tupleExact _) (wpAny_newObj_type (wpAny_bind (wpAny_pure (wpAny_pure ⟨_, rfl, wpAny_pure h⟩))) hz)
    | exact wpAny_bind (wpAny_bind (m := Builtin.Tuple.tupleExact _) (wpAny_newObj_type (wpAny_pure (wpAny_pure ⟨_, rfl, wpAny_pure h⟩)) hz))
    | exact wpAny_bind (wpAny_bind (m := Builtin.Tuple.tupleExact _) (wpAny_newObj_type (wpAny_pure ⟨_, rfl, wpAny_pure h⟩) hz))
theorem slice6 {value slice : Expr} {t : Addr} {vs six rest : List Value} {u : Tok} {Q : Value → Shared → Prop} (F : Fr h₀ L s.heap m) (N : News h₀ L s.heap news) (hm : (t, tupObj vs) ∈ news) (hv : vs = six ++ rest) (h6 : six.length = 6) (hr : rest.length ≤ 100)
    (h : ∀ T h', Fr h₀ L h' m → News h₀ L h' ((T, tupObj six) :: news) → Q (.ref T) { s with heap := h' })
    (hs : subscripted slice false (.ref t) (.ref s.heap.objs.size) = operate [.ref s.heap.objs.size, .ref t] (getItem (.ref t) (.ref s.heap.objs.size)) := by with_unfolding_all rfl)
    (hg : ∀ r, letTemporaryGo value (.ref t) r = pure () := by intro _; with_unfolding_all rfl) :
    wpAny (model prog w) A (subscriptTail value slice (.ref t) (.ref s.heap.objs.size)) Q E { s with heap := s.heap.push { cls := .type "slice", data := .fields #[.none, .int 6 u, .none] } } := by
  subst hv
  have hx := Heap.get?_push_of_some { cls := .type "slice", data := .fields #[.none, .int 6 u, .none] } (N.get hm)
  have hT : IsTup (s.heap.push { cls := .type "slice", data := .fields #[.none, .int 6 u, .none] }) t (six ++ rest).toArray := ⟨_, hx, rfl, 0, rfl⟩
  have N1 := N.grown (h' := s.heap.push { cls := .type "slice", data := .fields #[.none, .int 6 u, .none] }) fun _ _ e => Heap.get?_push_of_some _ e
  have F1 := F.push { cls := .type "slice", data := .fields #[.none, .int 6 u, .none] }
  refine subscriptTail_ops (s := { s with heap := s.heap.push { cls := .type "slice", data := .fields #[.none, .int 6 u, .none] } }) hT.typeIs slot_tuple_getitem.lookup
    (getItem6 h6 hr hx (Heap.IsSliceOf.new ..) (fun he => ?_) ?_) hs hg
  · refine h t _ F1 fun p hp => ?_
    rcases List.mem_cons.mp hp with rfl | hp
    · have := N1 _ hm
      rw [he, List.append_nil] at this
      exact this
    · exact N1 p hp
  · exact h _ _ (F1.push _) (N1.push F1 (tupObj six))
end
end Mine
end

section
open PySem
set_option maxHeartbeats 4000000
namespace Mine
open PySem.Builtin._datetime
open PySem.Builtin.Time (timeCivil timeIsLeap timeDaysBefore)
theorem yoe_ok (c q r doy : Int) (c0 : 0 ≤ c) (c1 : c ≤ 3) (q0 : 0 ≤ q) (q1 : q ≤ 24) (r0 : 0 ≤ r) (r1 : r ≤ 3) (d0 : 0 ≤ doy) (d1 : doy ≤ 365) (hl : doy = 365 → r = 3 ∧ (q = 24 → c = 3)) (doe : Int) (hd : doe = 36524 * c + 1461 * q + 365 * r + doy) :
    (doe - doe / 1460 + doe / 36524 - doe / 146096) / 365 = 100 * c + 4 * q + r := by
  have k1 : (24 * c + q + 365 * r + doy < 1460 ∧ doe / 1460 = 25 * c + q) ∨ (1460 ≤ 24 * c + q + 365 * r + doy ∧ doe / 1460 = 25 * c + q + 1) := by omega
  have k2 : doe / 36524 - doe / 146096 = c := by
    by_cases h : doe = 146096
    · have : c = 3 := by omega
      omega
    · have h1 : doe < 146096 := by omega
      have h2 : doe / 36524 = c := by omega
      have h3 : doe / 146096 = 0 := by omega
      omega
  have k3 : doe - doe / 1460 + doe / 36524 - doe / 146096 = doe - doe / 1460 + c := by omega
  rw [k3]
  rcases k1 with ⟨a, b⟩ | ⟨a, b⟩ <;> rw [b] <;> omega
/-- the March-based count -/
theorem civil_of (e c q r doy : Int) (c0 : 0 ≤ c) (c1 : c ≤ 3) (q0 : 0 ≤ q) (q1 : q ≤ 24) (r0 : 0 ≤ r) (r1 : r ≤ 3) (d0 : 0 ≤ doy) (d1 : doy ≤ 365) (hl : doy = 365 → r = 3 ∧ (q = 24 → c = 3)) (z : Int) (hz : z + 719468 = 146097 * e + (36524 * c + 1461 * q + 365 * r + doy)) :
    timeCivil z = ((100 * c + 4 * q + r) + e * 400 + (if (if (5 * doy + 2) / 153 < 10 then (5 * doy + 2) / 153 + 3 else (5 * doy + 2) / 153 - 9) ≤ 2 then 1 else 0),
      (if (5 * doy + 2) / 153 < 10 then (5 * doy + 2) / 153 + 3 else (5 * doy + 2) / 153 - 9), doy - (153 * ((5 * doy + 2) / 153) + 2) / 5 + 1) := by
  have hS : 0 ≤ 36524 * c + 1461 * q + 365 * r + doy ∧ 36524 * c + 1461 * q + 365 * r + doy ≤ 146096 := by clear hl hz; omega
  have hY := yoe_ok c q r doy c0 c1 q0 q1 r0 r1 d0 d1 hl _ rfl
  have hy : 36524 * c + 1461 * q + 365 * r + doy - (365 * (100 * c + 4 * q + r) + (100 * c + 4 * q + r) / 4 - (100 * c + 4 * q + r) / 100) = doy := by
    clear hl hz hS hY
    have a1 : (100 * c + 4 * q + r) / 4 = 25 * c + q := by omega
    have a2 : (100 * c + 4 * q + r) / 100 = c := by omega
    rw [a1, a2]; omega
  clear hl
  generalize 36524 * c + 1461 * q + 365 * r + doy = S at *
  have hz' : z + 719468 = 146097 * e + S := by omega
  have hE : (z + 719468).fdiv 146097 = e := by rw [Int.fdiv_eq_ediv_of_nonneg _ (by decide), hz']; clear hz hz' hY hy; omega
  have hD : z + 719468 - e * 146097 = S := by omega
  unfold timeCivil
  simp only [hE, hD, hY, hy]
theorem parts (Y : Int) : ∃ e c q r, Y = 400 * e + 100 * c + 4 * q + r ∧ 0 ≤ c ∧ c ≤ 3 ∧ 0 ≤ q ∧ q ≤ 24 ∧ 0 ≤ r ∧ r ≤ 3 :=
  ⟨Y / 400, Y % 400 / 100, Y % 100 / 4, Y % 4, by omega, by omega, by omega, by omega, by omega, by omega, by omega⟩
theorem leap_of {Y e c q r : Int} (h : Y = 400 * e + 100 * c + 4 * q + r) (c0 : 0 ≤ c) (c1 : c ≤ 3) (q0 : 0 ≤ q) (q1 : q ≤ 24) (r0 : 0 ≤ r) (r1 : r ≤ 3) : timeIsLeap Y = true ↔ (r = 0 ∧ (q = 0 → c = 0)) := by
  unfold timeIsLeap
  simp only [Bool.and_eq_true, Bool.or_eq_true, beq_iff_eq, bne_iff_ne, ne_eq]
  have a1 : Y % 4 = r := by omega
  have a2 : Y % 100 = 4 * q + r := by omega
  have a3 : Y % 400 = 100 * c + 4 * q + r := by omega
  rw [a1, a2, a3]
  constructor
  · rintro ⟨b1, b2⟩; refine ⟨b1, fun b3 => ?_⟩; omega
  · rintro ⟨b1, b2⟩; refine ⟨b1, ?_⟩
    by_cases b3 : q = 0
    · right; have := b2 b3; omega
    · left; omega
/-- the days ahead of a year -/
theorem ahead {Y e c q r : Int} (h : Y = 400 * e + 100 * c + 4 * q + r) (c0 : 0 ≤ c) (c1 : c ≤ 3) (q0 : 0 ≤ q) (q1 : q ≤ 24) (r0 : 0 ≤ r) (r1 : r ≤ 3) : Y * 365 + Y / 4 - Y / 100 + Y / 400 = 146097 * e + (36524 * c + 1461 * q + 365 * r) := by
  have a1 : Y / 4 = 100 * e + 25 * c + q := by omega
  have a2 : Y / 100 = 4 * e + c := by omega
  have a3 : Y / 400 = e := by omega
  rw [a1, a2, a3]; omega
theorem d4 (Y : Int) : (Y - 1) / 4 = Y / 4 - (if Y % 4 = 0 then 1 else 0) := by split <;> omega
theorem d100 (Y : Int) : (Y - 1) / 100 = Y / 100 - (if Y % 100 = 0 then 1 else 0) := by split <;> omega
theorem d400 (Y : Int) : (Y - 1) / 400 = Y / 400 - (if Y % 400 = 0 then 1 else 0) := by split <;> omega
theorem leap_n (Y : Int) : (if timeIsLeap Y = true then (1 : Int) else 0) = (if Y % 4 = 0 then 1 else 0) - (if Y % 100 = 0 then 1 else 0) + (if Y % 400 = 0 then 1 else 0) := by
  have e1 : Y % 100 = 0 → Y % 4 = 0 := by omega
  have e2 : Y % 400 = 0 → Y % 100 = 0 := by omega
  unfold timeIsLeap
  by_cases h4 : Y % 4 = 0
  · by_cases h100 : Y % 100 = 0
    · by_cases h400 : Y % 400 = 0 <;> simp [h4, h100, h400]
    · have h400 : ¬ Y % 400 = 0 := fun q => h100 (e2 q)
      simp [h4, h100, h400]
  · have h100 : ¬ Y % 100 = 0 := fun q => h4 (e1 q)
    have h400 : ¬ Y % 400 = 0 := fun q => h100 (e2 q)
    simp [h4, h100, h400]
theorem ahead_prev (Y : Int) : (Y - 1) * 365 + (Y - 1) / 4 - (Y - 1) / 100 + (Y - 1) / 400 = Y * 365 + Y / 4 - Y / 100 + Y / 400 - 365 - (if timeIsLeap Y = true then 1 else 0) := by
  rw [leap_n, d4, d100, d400]
  generalize (if Y % 4 = 0 then (1 : Int) else 0) = a
  generalize (if Y % 100 = 0 then (1 : Int) else 0) = b
  generalize (if Y % 400 = 0 then (1 : Int) else 0) = c
  generalize Y / 4 = u
  generalize Y / 100 = v
  generalize Y / 400 = z
  omega
theorem ord_is (y mo dd : Int) : toOrdinal y mo dd = ((y - 1) * 365 + (y - 1) / 4 - (y - 1) / 100 + (y - 1) / 400) + timeDaysBefore (timeIsLeap y) mo + dd := rfl
theorem inv_late (y mo dd b o : Int) (hb : timeDaysBefore (timeIsLeap y) mo = b + (if timeIsLeap y = true then 1 else 0)) (ho : o = b - 59) (d0 : 0 ≤ o + dd - 1) (d1 : o + dd - 1 ≤ 364)
    (hm : (if (5 * (o + dd - 1) + 2) / 153 < 10 then (5 * (o + dd - 1) + 2) / 153 + 3 else (5 * (o + dd - 1) + 2) / 153 - 9) = mo) (hm2 : 2 < mo) (hd : (o + dd - 1) - (153 * ((5 * (o + dd - 1) + 2) / 153) + 2) / 5 + 1 = dd) :
    timeCivil (toOrdinal y mo dd - 719163) = (y, mo, dd) := by
  obtain ⟨e, c, q, r, h, c0, c1, q0, q1, r0, r1⟩ := parts y
  have hA := ahead h c0 c1 q0 q1 r0 r1
  have hP := ahead_prev y
  rw [hA] at hP
  have hz : toOrdinal y mo dd - 719163 + 719468 = 146097 * e + (36524 * c + 1461 * q + 365 * r + (o + dd - 1)) := by
    rw [ord_is, hb, hP]; omega
  rw [civil_of e c q r (o + dd - 1) c0 c1 q0 q1 r0 r1 d0 (by omega) (by omega) _ hz, hm, hd, if_neg (by omega)]
  have : 100 * c + 4 * q + r + e * 400 + 0 = y := by omega
  rw [this]
theorem inv_soon (y mo dd b o : Int) (hb : timeDaysBefore (timeIsLeap y) mo = b) (ho : o = b + 306) (d0 : 0 ≤ o + dd - 1) (d1 : o + dd - 1 ≤ 365) (hl : o + dd - 1 = 365 → timeIsLeap y = true)
    (hm : (if (5 * (o + dd - 1) + 2) / 153 < 10 then (5 * (o + dd - 1) + 2) / 153 + 3 else (5 * (o + dd - 1) + 2) / 153 - 9) = mo) (hm2 : mo ≤ 2) (hd : (o + dd - 1) - (153 * ((5 * (o + dd - 1) + 2) / 153) + 2) / 5 + 1 = dd) :
    timeCivil (toOrdinal y mo dd - 719163) = (y, mo, dd) := by
  obtain ⟨e, c, q, r, h, c0, c1, q0, q1, r0, r1⟩ := parts (y - 1)
  have hA := ahead h c0 c1 q0 q1 r0 r1
  have hz : toOrdinal y mo dd - 719163 + 719468 = 146097 * e + (36524 * c + 1461 * q + 365 * r + (o + dd - 1)) := by
    rw [ord_is, hb, hA]; omega
  have hL : o + dd - 1 = 365 → r = 3 ∧ (q = 24 → c = 3) := by
    intro x
    have hl' := hl x
    unfold timeIsLeap at hl'
    simp only [Bool.and_eq_true, Bool.or_eq_true, beq_iff_eq, bne_iff_ne, ne_eq] at hl'
    clear hz hA hm hd ho hb
    have a0 : y = 400 * e + 100 * c + 4 * q + r + 1 := by omega
    have a1 : r = 3 := by omega
    refine ⟨a1, fun a2 => ?_⟩
    have a3 : y % 100 = 0 := by omega
    have a4 : y % 400 = 0 := by rcases hl'.2 with x | x <;> omega
    omega
  rw [civil_of e c q r (o + dd - 1) c0 c1 q0 q1 r0 r1 d0 d1 hL _ hz, hm, hd, if_pos hm2]
  have : 100 * c + 4 * q + r + e * 400 + 1 = y := by omega
  rw [this]
theorem months_of {mo : Int} (h3 : 1 ≤ mo) (h4 : mo ≤ 12) : mo = 1 ∨ mo = 2 ∨ mo = 3 ∨ mo = 4 ∨ mo = 5 ∨ mo = 6 ∨ mo = 7 ∨ mo = 8 ∨ mo = 9 ∨ mo = 10 ∨ mo = 11 ∨ mo = 12 := by omega
theorem dim_of (y mo : Int) (h3 : 1 ≤ mo) (h4 : mo ≤ 12) : daysInMonth y mo = if mo = 2 then (if timeIsLeap y = true then 29 else 28) else if mo = 4 ∨ mo = 6 ∨ mo = 9 ∨ mo = 11 then 30 else 31 := by
  unfold daysInMonth
  rcases months_of h3 h4 with e | e | e | e | e | e | e | e | e | e | e | e <;> subst e <;> (cases timeIsLeap y <;> rfl)
/-- a month's place in the year from March on -/
theorem place_of (x k o n : Int) (h1 : 153 * k ≤ 5 * o + 2) (h2 : 5 * (o + n - 1) + 2 < 153 * (k + 1)) (x0 : o ≤ x) (x1 : x ≤ o + n - 1) : (5 * x + 2) / 153 = k := by omega
theorem late_of (y mo dd b o k n : Int) (hb : timeDaysBefore (timeIsLeap y) mo = b + (if timeIsLeap y = true then 1 else 0)) (hk : b - 59 = o ∧ 0 ≤ o ∧ o + n ≤ 365 ∧ 153 * k ≤ 5 * o + 2 ∧ 5 * (o + n - 1) + 2 < 153 * (k + 1) ∧ (153 * k + 2) / 5 = o ∧ mo = (if k < 10 then k + 3 else k - 9) ∧ 2 < mo) (d1 : 1 ≤ dd) (d2 : dd ≤ n) :
    timeCivil (toOrdinal y mo dd - 719163) = (y, mo, dd) := by
  obtain ⟨h1, h2, h3, h4, h5, h6, h7, h8⟩ := hk
  have e := place_of (o + dd - 1) k o n h4 h5 (by omega) (by omega)
  refine inv_late y mo dd b o hb h1.symm (by omega) (by omega) ?_ h8 ?_
  · rw [e]; exact h7.symm
  · rw [e, h6]; omega
theorem soon_of (y mo dd b o k n : Int) (hb : timeDaysBefore (timeIsLeap y) mo = b) (hk : o = b + 306 ∧ 0 ≤ o ∧ o + n ≤ 366 ∧ 153 * k ≤ 5 * o + 2 ∧ 5 * (o + n - 1) + 2 < 153 * (k + 1) ∧ (153 * k + 2) / 5 = o ∧ mo = (if k < 10 then k + 3 else k - 9) ∧ mo ≤ 2) (d1 : 1 ≤ dd) (d2 : dd ≤ n) (hl : o + dd - 1 = 365 → timeIsLeap y = true) :
    timeCivil (toOrdinal y mo dd - 719163) = (y, mo, dd) := by
  obtain ⟨h1, h2, h3, h4, h5, h6, h7, h8⟩ := hk
  have e := place_of (o + dd - 1) k o n h4 h5 (by omega) (by omega)
  refine inv_soon y mo dd b o hb h1 (by omega) (by omega) hl ?_ h8 ?_
  · rw [e]; exact h7.symm
  · rw [e, h6]; omega
theorem inv_of (y mo dd : Int) (h3 : 1 ≤ mo) (h4 : mo ≤ 12) (h5 : 1 ≤ dd) (h6 : dd ≤ daysInMonth y mo) : timeCivil (toOrdinal y mo dd - 719163) = (y, mo, dd) := by
  rcases months_of h3 h4 with x | x | x | x | x | x | x | x | x | x | x | x <;> subst x
  · exact soon_of y 1 dd 0 306 10 31 (by cases timeIsLeap y <;> rfl) (by decide) h5 (by rw [dim_of y 1 (by decide) (by decide)] at h6; exact h6) (fun q => by rw [dim_of y 1 (by decide) (by decide)] at h6; exfalso; revert h6 q; simp only [Int.reduceEq, if_false, false_or]; omega)
  · rw [dim_of y 2 (by decide) (by decide), if_pos rfl] at h6
    refine soon_of y 2 dd 31 337 11 29 (by cases timeIsLeap y <;> rfl) (by decide) h5 (by revert h6; split <;> omega) (fun q => ?_)
    cases hl : timeIsLeap y with
    | true => rfl
    | false => rw [hl, if_neg Bool.false_ne_true] at h6; omega
  · exact late_of y 3 dd 59 0 0 31 (by cases timeIsLeap y <;> rfl) (by decide) h5 (by rw [dim_of y 3 (by decide) (by decide)] at h6; exact h6)
  · exact late_of y 4 dd 90 31 1 30 (by cases timeIsLeap y <;> rfl) (by decide) h5 (by rw [dim_of y 4 (by decide) (by decide)] at h6; exact h6)
  · exact late_of y 5 dd 120 61 2 31 (by cases timeIsLeap y <;> rfl) (by decide) h5 (by rw [dim_of y 5 (by decide) (by decide)] at h6; exact h6)
  · exact late_of y 6 dd 151 92 3 30 (by cases timeIsLeap y <;> rfl) (by decide) h5 (by rw [dim_of y 6 (by decide) (by decide)] at h6; exact h6)
  · exact late_of y 7 dd 181 122 4 31 (by cases timeIsLeap y <;> rfl) (by decide) h5 (by rw [dim_of y 7 (by decide) (by decide)] at h6; exact h6)
  · exact late_of y 8 dd 212 153 5 31 (by cases timeIsLeap y <;> rfl) (by decide) h5 (by rw [dim_of y 8 (by decide) (by decide)] at h6; exact h6)
  · exact late_of y 9 dd 243 184 6 30 (by cases timeIsLeap y <;> rfl) (by decide) h5 (by rw [dim_of y 9 (by decide) (by decide)] at h6; exact h6)
  · exact late_of y 10 dd 273 214 7 31 (by cases timeIsLeap y <;> rfl) (by decide) h5 (by rw [dim_of y 10 (by decide) (by decide)] at h6; exact h6)
  · exact late_of y 11 dd 304 245 8 30 (by cases timeIsLeap y <;> rfl) (by decide) h5 (by rw [dim_of y 11 (by decide) (by decide)] at h6; exact h6)
  · exact late_of y 12 dd 334 275 9 31 (by cases timeIsLeap y <;> rfl) (by decide) h5 (by rw [dim_of y 12 (by decide) (by decide)] at h6; exact h6)
end Mine
end

section
open PySem
set_option maxHeartbeats 4000000
namespace Mine
open PySem.Builtin._datetime
open PySem.Builtin.Time (timeCivil timeIsLeap timeDaysBefore)
/-- the days of a year ahead of a month -/
def bef (leap : Bool) (mo : Int) : Int := timeDaysBefore leap mo
theorem bef_next (y mo : Int) (h3 : 1 ≤ mo) (h4 : mo ≤ 11) : timeDaysBefore (timeIsLeap y) (mo + 1) = timeDaysBefore (timeIsLeap y) mo + daysInMonth y mo := by
  rw [dim_of y mo h3 (by omega)]
  rcases months_of h3 (by omega) with x | x | x | x | x | x | x | x | x | x | x | x <;> subst x <;> first | omega | (cases timeIsLeap y <;> decide)
theorem bef_bound (y mo dd : Int) (h3 : 1 ≤ mo) (h4 : mo ≤ 12) (h6 : dd ≤ daysInMonth y mo) : 0 ≤ timeDaysBefore (timeIsLeap y) mo ∧ timeDaysBefore (timeIsLeap y) mo + dd ≤ (if timeIsLeap y = true then 366 else 365) := by
  rw [dim_of y mo h3 h4] at h6
  rcases months_of h3 h4 with x | x | x | x | x | x | x | x | x | x | x | x <;> subst x <;> (cases hl : timeIsLeap y <;> rw [hl] at h6 <;> simp at h6 <;> refine ⟨by decide, ?_⟩)
  all_goals (first
    | (have e : timeDaysBefore false 1 = 0 := rfl; rw [e]; simp; omega) | (have e : timeDaysBefore true 1 = 0 := rfl; rw [e]; simp; omega)
    | (have e : timeDaysBefore false 2 = 31 := rfl; rw [e]; simp; omega) | (have e : timeDaysBefore true 2 = 31 := rfl; rw [e]; simp; omega)
    | (have e : timeDaysBefore false 3 = 59 := rfl; rw [e]; simp; omega) | (have e : timeDaysBefore true 3 = 60 := rfl; rw [e]; simp; omega)
    | (have e : timeDaysBefore false 4 = 90 := rfl; rw [e]; simp; omega) | (have e : timeDaysBefore true 4 = 91 := rfl; rw [e]; simp; omega)
    | (have e : timeDaysBefore false 5 = 120 := rfl; rw [e]; simp; omega) | (have e : timeDaysBefore true 5 = 121 := rfl; rw [e]; simp; omega)
    | (have e : timeDaysBefore false 6 = 151 := rfl; rw [e]; simp; omega) | (have e : timeDaysBefore true 6 = 152 := rfl; rw [e]; simp; omega)
    | (have e : timeDaysBefore false 7 = 181 := rfl; rw [e]; simp; omega) | (have e : timeDaysBefore true 7 = 182 := rfl; rw [e]; simp; omega)
    | (have e : timeDaysBefore false 8 = 212 := rfl; rw [e]; simp; omega) | (have e : timeDaysBefore true 8 = 213 := rfl; rw [e]; simp; omega)
    | (have e : timeDaysBefore false 9 = 243 := rfl; rw [e]; simp; omega) | (have e : timeDaysBefore true 9 = 244 := rfl; rw [e]; simp; omega)
    | (have e : timeDaysBefore false 10 = 273 := rfl; rw [e]; simp; omega) | (have e : timeDaysBefore true 10 = 274 := rfl; rw [e]; simp; omega)
    | (have e : timeDaysBefore false 11 = 304 := rfl; rw [e]; simp; omega) | (have e : timeDaysBefore true 11 = 305 := rfl; rw [e]; simp; omega)
    | (have e : timeDaysBefore false 12 = 334 := rfl; rw [e]; simp; omega) | (have e : timeDaysBefore true 12 = 335 := rfl; rw [e]; simp; omega))
theorem ord_lo (y mo dd : Int) (h1 : 1 ≤ y) (h2 : y ≤ 10000) (h3 : 1 ≤ mo) (h4 : mo ≤ 12) (h5 : 1 ≤ dd) (h6 : dd ≤ daysInMonth y mo) : 1 ≤ toOrdinal y mo dd ∧ toOrdinal y mo dd < 4000000 := by
  have hb := bef_bound y mo dd h3 h4 h6
  rw [ord_is]
  generalize timeDaysBefore (timeIsLeap y) mo = b at *
  have hb2 : b + dd ≤ 366 := by have := hb.2; split at this <;> omega
  omega
theorem ord_hi (y mo dd : Int) (h1 : 1 ≤ y) (h2 : y ≤ 9999) (h3 : 1 ≤ mo) (h4 : mo ≤ 12) (h5 : 1 ≤ dd) (h6 : dd ≤ daysInMonth y mo) : toOrdinal y mo dd < 3652060 := by
  have hb := bef_bound y mo dd h3 h4 h6
  rw [ord_is]
  by_cases hy : y = 9999
  · subst hy
    have hl : timeIsLeap 9999 = false := by decide
    rw [hl] at hb ⊢
    generalize timeDaysBefore false mo = b at *
    simp at hb
    omega
  · generalize timeDaysBefore (timeIsLeap y) mo = b at *
    have hb2 : b + dd ≤ 366 := by have := hb.2; split at this <;> omega
    omega
/-- a day behind its month is a day of the next one -/
theorem ord_carry (y mo dd : Int) (h3 : 1 ≤ mo) (h4 : mo ≤ 11) : toOrdinal y (mo + 1) (dd - daysInMonth y mo) = toOrdinal y mo dd := by
  rw [ord_is, ord_is, bef_next y mo h3 h4]; omega
theorem ord_year (y dd : Int) : toOrdinal (y + 1) 1 (dd - daysInMonth y 12) = toOrdinal y 12 dd := by
  have h := ahead_prev y
  have d1 : daysInMonth y 12 = 31 := by rw [dim_of y 12 (by decide) (by decide)]; rfl
  have b1 : timeDaysBefore (timeIsLeap (y + 1)) 1 = 0 := by cases timeIsLeap (y + 1) <;> rfl
  have b2 : timeDaysBefore (timeIsLeap y) 12 = 334 + (if timeIsLeap y = true then 1 else 0) := by cases timeIsLeap y <;> rfl
  rw [ord_is, ord_is, b1, b2, d1, h, show y + 1 - 1 = y by omega]
  omega
theorem ord_shift (y mo dd k : Int) : toOrdinal y mo (dd + k) = toOrdinal y mo dd + k := by rw [ord_is, ord_is]; omega
/-- Zeller's rule -/
theorem zeller_late (y mo d : Int) (h3 : 3 ≤ mo) (h4 : mo ≤ 12) : (d + 13 * (mo + 1) / 5 + y % 100 + y % 100 / 4 + y / 100 / 4 + 5 * (y / 100)) % 7 = (toOrdinal y mo d + 1) % 7 := by
  have h := ahead_prev y
  rw [ord_is, h]
  have hH : y = 100 * (y / 100) + y % 100 := by omega
  have a1 : y / 4 = 25 * (y / 100) + y % 100 / 4 := by omega
  have a2 : y / 400 = y / 100 / 4 := by omega
  rw [a1, a2]
  generalize y / 100 = H at *
  generalize y % 100 = rr at *
  generalize rr / 4 = r4 at *
  generalize H / 4 = h4' at *
  subst hH
  have hb : ∃ c : Int, timeDaysBefore (timeIsLeap (100 * H + rr)) mo = c + (if timeIsLeap (100 * H + rr) = true then 1 else 0) ∧ (13 * (mo + 1) / 5 - c) % 7 = 0 := by
    rcases months_of (by omega) h4 with x | x | x | x | x | x | x | x | x | x | x | x <;> subst x
    · exact absurd h3 (by decide)
    · exact absurd h3 (by decide)
    · exact ⟨59, by cases timeIsLeap (100 * H + rr) <;> rfl, by decide⟩
    · exact ⟨90, by cases timeIsLeap (100 * H + rr) <;> rfl, by decide⟩
    · exact ⟨120, by cases timeIsLeap (100 * H + rr) <;> rfl, by decide⟩
    · exact ⟨151, by cases timeIsLeap (100 * H + rr) <;> rfl, by decide⟩
    · exact ⟨181, by cases timeIsLeap (100 * H + rr) <;> rfl, by decide⟩
    · exact ⟨212, by cases timeIsLeap (100 * H + rr) <;> rfl, by decide⟩
    · exact ⟨243, by cases timeIsLeap (100 * H + rr) <;> rfl, by decide⟩
    · exact ⟨273, by cases timeIsLeap (100 * H + rr) <;> rfl, by decide⟩
    · exact ⟨304, by cases timeIsLeap (100 * H + rr) <;> rfl, by decide⟩
    · exact ⟨334, by cases timeIsLeap (100 * H + rr) <;> rfl, by decide⟩
  obtain ⟨c, hb, hc⟩ := hb
  rw [hb]
  generalize (if timeIsLeap (100 * H + rr) = true then (1 : Int) else 0) = l
  generalize 13 * (mo + 1) / 5 = z at *
  omega
theorem zeller_soon (y mo d : Int) (h3 : 1 ≤ mo) (h4 : mo ≤ 2) : (d + 13 * (mo + 12 + 1) / 5 + (y - 1) % 100 + (y - 1) % 100 / 4 + (y - 1) / 100 / 4 + 5 * ((y - 1) / 100)) % 7 = (toOrdinal y mo d + 1) % 7 := by
  rw [ord_is]
  generalize hY : y - 1 = Y
  have hH : Y = 100 * (Y / 100) + Y % 100 := by omega
  have a1 : Y / 4 = 25 * (Y / 100) + Y % 100 / 4 := by omega
  have a2 : Y / 400 = Y / 100 / 4 := by omega
  rw [a1, a2]
  clear hY a1 a2
  have hm : mo = 1 ∨ mo = 2 := by omega
  have hb : timeDaysBefore (timeIsLeap y) mo = timeDaysBefore false mo := by
    rcases hm with x | x <;> subst x <;> (cases timeIsLeap y <;> rfl)
  rw [hb]
  generalize Y / 100 = H at *
  generalize Y % 100 = rr at *
  generalize rr / 4 = r4 at *
  generalize H / 4 = h4' at *
  subst hH
  rcases hm with x | x <;> subst x
  · rw [show timeDaysBefore false 1 = 0 from rfl]; omega
  · rw [show timeDaysBefore false 2 = 31 from rfl]; omega
end Mine
end

section
open PySem PySem.W PyProof.Rows PySem.Calls
set_option maxHeartbeats 4000000
namespace Mine
open PySem.Builtin._datetime
theorem cal_ok : CalOk := ⟨fun y mo dd _ _ h3 h4 h5 h6 => inv_of y mo dd h3 h4 h5 h6, ord_lo, ord_hi⟩
theorem own_date (n : String) (id : String) (h : id.cutAt '.' = ["datetime", "date", n]) (h2 : ".".intercalate ["datetime", "date", n].dropLast = "datetime.date") : isSubtype (.type "datetime.datetime") (.type (".".intercalate (id.cutAt '.').dropLast)) = pure true := by
  rw [h, h2]; exact sub_datetime_date
theorem own_dt (n : String) (id : String) (h : id.cutAt '.' = ["datetime", "datetime", n]) (h2 : ".".intercalate ["datetime", "datetime", n].dropLast = "datetime.datetime") : isSubtype (.type "datetime.datetime") (.type (".".intercalate (id.cutAt '.').dropLast)) = pure true := by
  rw [h, h2]; exact sub_dt_dt
theorem at_month : IntAt "datetime.datetime" "month" "datetime.date.month" 1 where
  ga := ga_datetime
  lk := by rw [typeLookup_type, builtinLookup_eq_fast]; kernel_rfl
  ty := by kernel_rfl
  own := own_date "month" _ (by first | rfl | decide +kernel) (by decide +kernel)
  ent := entryFor_of_tree (by kernel_rfl)
  kind := by decide +kernel
  quiet := fun _ => Code.quiet_builtin _ (by decide +kernel)
  args := fun _ _ => by unfold argsOk; kernel_rfl
theorem at_day : IntAt "datetime.datetime" "day" "datetime.date.day" 2 where
  ga := ga_datetime
  lk := by rw [typeLookup_type, builtinLookup_eq_fast]; kernel_rfl
  ty := by kernel_rfl
  own := own_date "day" _ (by first | rfl | decide +kernel) (by decide +kernel)
  ent := entryFor_of_tree (by kernel_rfl)
  kind := by decide +kernel
  quiet := fun _ => Code.quiet_builtin _ (by decide +kernel)
  args := fun _ _ => by unfold argsOk; kernel_rfl
theorem at_hour : IntAt "datetime.datetime" "hour" "datetime.datetime.hour" 3 where
  ga := ga_datetime
  lk := by rw [typeLookup_type, builtinLookup_eq_fast]; kernel_rfl
  ty := by kernel_rfl
  own := own_dt "hour" _ (by first | rfl | decide +kernel) (by decide +kernel)
  ent := entryFor_of_tree (by kernel_rfl)
  kind := by decide +kernel
  quiet := fun _ => Code.quiet_builtin _ (by decide +kernel)
  args := fun _ _ => by unfold argsOk; kernel_rfl
theorem at_minute : IntAt "datetime.datetime" "minute" "datetime.datetime.minute" 4 where
  ga := ga_datetime
  lk := by rw [typeLookup_type, builtinLookup_eq_fast]; kernel_rfl
  ty := by kernel_rfl
  own := own_dt "minute" _ (by first | rfl | decide +kernel) (by decide +kernel)
  ent := entryFor_of_tree (by kernel_rfl)
  kind := by decide +kernel
  quiet := fun _ => Code.quiet_builtin _ (by decide +kernel)
  args := fun _ _ => by unfold argsOk; kernel_rfl
theorem at_second : IntAt "datetime.datetime" "second" "datetime.datetime.second" 5 where
  ga := ga_datetime
  lk := by rw [typeLookup_type, builtinLookup_eq_fast]; kernel_rfl
  ty := by kernel_rfl
  own := own_dt "second" _ (by first | rfl | decide +kernel) (by decide +kernel)
  ent := entryFor_of_tree (by kernel_rfl)
  kind := by decide +kernel
  quiet := fun _ => Code.quiet_builtin _ (by decide +kernel)
  args := fun _ _ => by unfold argsOk; kernel_rfl
theorem slice6L {prog : Program} {w : World} {A : Around} {E : Value → Shared → Prop} {s : Shared} {h₀ : Heap} {L : Addr} {m : Str → Option Value} {news : List (Addr × Obj)}
    {value slice : Expr} {t : Addr} {a b c d e f : Value} {rest : List Value} {u : Tok} {Q : Value → Shared → Prop} (F : Fr h₀ L s.heap m) (N : News h₀ L s.heap news) (hm : (t, tupObj (a :: b :: c :: d :: e :: f :: rest)) ∈ news) (hr : rest.length ≤ 100)
    (h : ∀ T h', Fr h₀ L h' m → News h₀ L h' ((T, tupObj [a, b, c, d, e, f]) :: news) → Q (.ref T) { s with heap := h' })
    (hs : subscripted slice false (.ref t) (.ref s.heap.objs.size) = operate [.ref s.heap.objs.size, .ref t] (getItem (.ref t) (.ref s.heap.objs.size)))
    (hg : ∀ r, letTemporaryGo value (.ref t) r = pure ()) :
    wpAny (model prog w) A (subscriptTail value slice (.ref t) (.ref s.heap.objs.size)) Q E { s with heap := s.heap.push { cls := .type "slice", data := .fields #[.none, .int 6 u, .none] } } :=
  slice6 F N hm (six := [a, b, c, d, e, f]) rfl rfl hr h hs hg
end Mine
end

section
open PySem PySem.W PyProof.Rows PySem.Calls PySem.Builtin PySem.Builtin.Str
set_option maxHeartbeats 8000000
namespace Mine
def padz (k : Nat) (n : Int) : PySem.Str := ⟨(List.replicate (k - (PySem.Str.ofString (toString n)).cps.toList.length) 48 ++ (PySem.Str.ofString (toString n)).cps.toList).toArray⟩
theorem padz_len {k : Nat} (hk : k ≤ 10) {n : Int} (h0 : 0 ≤ n) (h1 : n < 10 ^ 10) : (padz k n).length ≤ 10 := by
  have h := toString_length_le (k := 10) h0 (by decide) h1
  have e : (PySem.Str.ofString (toString n)).length = (PySem.Str.ofString (toString n)).cps.toList.length := by
    simp [PySem.Str.length]
  rw [e] at h
  show (List.toArray _).size ≤ 10
  simp only [List.size_toArray, List.length_append, List.length_replicate]
  omega
theorem first_digit (m : Nat) : ∃ x r, (PySem.Str.ofString (toString ((m : Nat) : Int))).cps.toList = x :: r ∧ 48 ≤ x := by
  rw [KIN.signs_num]
  cases e : Nat.toDigits 10 m with
  | nil => exact absurd e Nat.toDigits_ne_nil
  | cons c t =>
    refine ⟨c.toNat, t.map Char.toNat, rfl, ?_⟩
    have hd : c.isDigit = true := Nat.isDigit_of_mem_toDigits (b := 10) (by decide) (by decide) (n := m) (by rw [e]; exact List.mem_cons_self)
    simp only [Char.isDigit, Bool.and_eq_true, decide_eq_true_eq] at hd
    exact hd.1
theorem field_pad {c : Percent} {k : Nat} (hz : c.zero = true) (hl : c.ljust = false) (h1 : c.sign = false) (h2 : c.blank = false) (h3 : c.alt = false) (hp : c.prec = none) (hw : c.width = some k) (ht : c.type = 100)
    {d : List Nat} (hd : ∃ x r, d = x :: r ∧ 48 ≤ x) :
    (percentField c true d = none ∧ k ≤ d.length) ∨ percentField c true d = some (List.replicate (k - d.length) 48 ++ d) := by
  obtain ⟨x, r, e, hx⟩ := hd
  by_cases hk : k ≤ d.length
  · refine Or.inl ⟨?_, hk⟩
    unfold percentField
    simp [hw, hp, h1, h2, hk]
  · refine Or.inr ?_
    unfold percentField
    have h45 : x ≠ 45 := by omega
    have h43 : x ≠ 43 := by omega
    subst e
    have hk' : k ≤ r.length + 1 ↔ False := by simpa using hk
    simp [hw, hp, h1, h2, h3, hl, hz, ht, hk', h45, h43]
section
variable {M : Model} {A : Around} {E : Value → Shared → Prop} {s : Shared} {p : List Value} {r : List Nat}
  {Q : ForInStep (List Value × Writer × List Nat) → Shared → Prop}
  {w : Writer} {T : PySem.Str} {N : Nat} {o : Option Value}
theorem field2 {G : Option (List Nat) → Sem (ForInStep (List Value × Writer × List Nat))} {c : Percent} {k : Nat} {n : Int} {d : List Nat} (g : KPc.Good w T N)
    (h0 : G none = pure (.yield (p, w.add ⟨(percentInt c (decide (n < 0)) d).toArray⟩ o, r))) (h1 : ∀ laid, G (some laid) = pure (.yield (p, w.add ⟨laid.toArray⟩ none, r))) (ho : o = none)
    (hz : c.zero = true) (hl : c.ljust = false) (hs : c.sign = false) (hb : c.blank = false) (ha : c.alt = false) (hp : c.prec = none) (hw : c.width = some k) (ht : c.type = 100)
    (hd : d = (PySem.Str.ofString (toString ((n.natAbs : Nat) : Int))).cps.toList) (hk : k ≤ 10) (hn : 0 ≤ n) (hm : n < 10 ^ 10)
    (h : ∀ w', KPc.Good w' (T ++ padz k n) (N + 10) → Q (.yield (p, w', r)) s) :
    ∀ pf, percentField c true (percentInt c (decide (n < 0)) d) = pf → wpAny M A (G pf) Q E s := by
  have en : ((n.natAbs : Nat) : Int) = n := Int.natAbs_of_nonneg hn
  rw [en] at hd
  rw [KPc.int_text c ha (Or.inl ht) hp hn] at h0 ⊢
  have hx : ∃ x r, d = x :: r ∧ 48 ≤ x := by
    rw [hd]
    obtain ⟨m, rfl⟩ : ∃ m : Nat, n = (m : Int) := ⟨n.toNat, by omega⟩
    exact first_digit m
  have key : KPc.Good (w.add ⟨(List.replicate (k - d.length) 48 ++ d).toArray⟩ none) (T ++ padz k n) (N + 10) := by
    have e : (⟨(List.replicate (k - d.length) 48 ++ d).toArray⟩ : PySem.Str) = padz k n := by rw [hd]; rfl
    rw [e]
    exact KPc.good_mono (KPc.good_add g (KPc.obj_none rfl)) (Nat.add_le_add_left (padz_len hk hn hm) _)
  intro pf e
  subst e
  rcases field_pad hz hl hs hb ha hp hw ht hx with ⟨e, hl⟩ | e
  · rw [e, h0]
    refine wpAny_pure (h _ ?_)
    rw [ho]
    have e0 : k - d.length = 0 := by omega
    rw [e0] at key
    exact key
  · rw [e, h1]
    exact wpAny_pure (h _ key)
theorem field3 {K : List Nat × Option Value × Bool → Sem (ForInStep (List Value × Writer × List Nat))} {c : Percent} {k : Nat} {n : Int} {d : List Nat} {o' : Option Value} (g : KPc.Good w T N)
    (hK : K (percentInt c (decide (n < 0)) d, o', true) = Option.elim (percentField c true (percentInt c (decide (n < 0)) d)) (pure (.yield (p, w.add ⟨(percentInt c (decide (n < 0)) d).toArray⟩ o, r))) (fun laid => pure (.yield (p, w.add ⟨laid.toArray⟩ none, r)))) (ho : o = none)
    (hz : c.zero = true) (hl : c.ljust = false) (hs : c.sign = false) (hb : c.blank = false) (ha : c.alt = false) (hp : c.prec = none) (hw : c.width = some k) (ht : c.type = 100)
    (hd : d = (PySem.Str.ofString (toString ((n.natAbs : Nat) : Int))).cps.toList) (hk : k ≤ 10) (hn : 0 ≤ n) (hm : n < 10 ^ 10)
    (h : ∀ w', KPc.Good w' (T ++ padz k n) (N + 10) → Q (.yield (p, w', r)) s) :
    wpAny M A (pure (percentInt c (decide (n < 0)) d, o', true)) (fun x s => wpAny M A (K x) Q E s) E s := by
  refine wpAny_pure ?_
  show wpAny M A (K _) Q E s
  rw [hK]
  exact field2 (G := fun o => Option.elim o _ _) g rfl (fun _ => rfl) ho hz hl hs hb ha hp hw ht hd hk hn hm h _ rfl
end
end Mine
end

section
open PySem PySem.W PyProof.Rows PySem.Calls PySem.Builtin PySem.Builtin.Str
set_option maxHeartbeats 8000000
namespace Mine
local macro_rules | `(tactic| kpt_turns) => `(tactic| skip)
section
variable {prog : Program} {w : World} {A : Around} {E : Value → Shared → Prop} {s : Shared} {t u : Tok} {Q : Value → Shared → Prop} {b L : Addr} {its : Array Value} {n : Nat} {h₀ : Heap} {news : List (Addr × Obj)}
def isoText (y mo d hh mi ss : Int) : PySem.Str := PySem.Str.empty ++ padz 4 y ++ "-" ++ padz 2 mo ++ "-" ++ padz 2 d ++ " " ++ padz 2 hh ++ ":" ++ padz 2 mi ++ ":" ++ padz 2 ss ++ "Z"
theorem iso_mod {t1 t2 t3 t4 t5 t6 t7 : Tok} {y mo d hh mi ss : Int} (N : News h₀ L s.heap news) (hb : (b, ({ cls := .type "tuple", data := .seq #[.int y t1, .int mo t2, .int d t3, .int hh t4, .int mi t5, .int ss t6] n } : Obj)) ∈ news)
    (hy : 0 ≤ y ∧ y < 10 ^ 10) (hmo : 0 ≤ mo ∧ mo < 10 ^ 10) (hd : 0 ≤ d ∧ d < 10 ^ 10) (hhh : 0 ≤ hh ∧ hh < 10 ^ 10) (hmi : 0 ≤ mi ∧ mi < 10 ^ 10) (hss : 0 ≤ ss ∧ ss < 10 ^ 10)
    (h : ∀ t' k, Q (.str (isoText y mo d hh mi ss) t') { s with toks := k }) : wpAny (model prog w) A (binaryOp .Mod (.str (PySem.Str.ofString "%04d-%02d-%02d %02d:%02d:%02dZ") t) (.ref b)) Q E s := by
  obtain ⟨hy_0, hy_1⟩ := hy
  obtain ⟨hmo_0, hmo_1⟩ := hmo
  obtain ⟨hd_0, hd_1⟩ := hd
  obtain ⟨hhh_0, hhh_1⟩ := hhh
  obtain ⟨hmi_0, hmi_1⟩ := hmi
  obtain ⟨hss_0, hss_1⟩ := hss
  refine' KPt.mod_tuple N hb ?kptF ?kptm h
  case kptF => kpt_eq
  case kptm =>
    kpt_run
    refine KPc.turn ?_
    kpc_check
    repeat kpc_if
    refine wpAny_bind ?_
    refine wpAny_holding ?_
    (repeat kpc_if)
    kpt_conv
    refine Mine.field3 (by kpc_g) (by dsimp only; generalize PySem.Builtin.Str.percentField _ _ _ = pf; cases pf <;> rfl) (by kpc_none) rfl rfl rfl rfl rfl rfl rfl rfl rfl (by decide) (by kpt_fact) (by kpt_fact) ?_
    intro _ _
    refine KPc.turn ?_
    kpc_check
    repeat kpc_if
    refine wpAny_pure ?_
    refine KPc.after_add (y := ⟨#[45]⟩) (by kpc_g) (by rfl) (KPc.obj_none (by rfl)) ?_
    intro _ _
    refine KPc.turn ?_
    kpc_check
    repeat kpc_if
    refine wpAny_bind ?_
    refine wpAny_holding ?_
    (repeat kpc_if)
    kpt_conv
    refine Mine.field3 (by kpc_g) (by dsimp only; generalize PySem.Builtin.Str.percentField _ _ _ = pf; cases pf <;> rfl) (by kpc_none) rfl rfl rfl rfl rfl rfl rfl rfl rfl (by decide) (by kpt_fact) (by kpt_fact) ?_
    intro _ _
    refine KPc.turn ?_
    kpc_check
    repeat kpc_if
    refine wpAny_pure ?_
    refine KPc.after_add (y := ⟨#[45]⟩) (by kpc_g) (by rfl) (KPc.obj_none (by rfl)) ?_
    intro _ _
    refine KPc.turn ?_
    kpc_check
    repeat kpc_if
    refine wpAny_bind ?_
    refine wpAny_holding ?_
    (repeat kpc_if)
    kpt_conv
    refine Mine.field3 (by kpc_g) (by dsimp only; generalize PySem.Builtin.Str.percentField _ _ _ = pf; cases pf <;> rfl) (by kpc_none) rfl rfl rfl rfl rfl rfl rfl rfl rfl (by decide) (by kpt_fact) (by kpt_fact) ?_
    intro _ _
    refine KPc.turn ?_
    kpc_check
    repeat kpc_if
    refine wpAny_pure ?_
    refine KPc.after_add (y := ⟨#[32]⟩) (by kpc_g) (by rfl) (KPc.obj_none (by rfl)) ?_
    intro _ _
    refine KPc.turn ?_
    kpc_check
    repeat kpc_if
    refine wpAny_bind ?_
    refine wpAny_holding ?_
    (repeat kpc_if)
    kpt_conv
    refine Mine.field3 (by kpc_g) (by dsimp only; generalize PySem.Builtin.Str.percentField _ _ _ = pf; cases pf <;> rfl) (by kpc_none) rfl rfl rfl rfl rfl rfl rfl rfl rfl (by decide) (by kpt_fact) (by kpt_fact) ?_
    intro _ _
    refine KPc.turn ?_
    kpc_check
    repeat kpc_if
    refine wpAny_pure ?_
    refine KPc.after_add (y := ⟨#[58]⟩) (by kpc_g) (by rfl) (KPc.obj_none (by rfl)) ?_
    intro _ _
    refine KPc.turn ?_
    kpc_check
    repeat kpc_if
    refine wpAny_bind ?_
    refine wpAny_holding ?_
    (repeat kpc_if)
    kpt_conv
    refine Mine.field3 (by kpc_g) (by dsimp only; generalize PySem.Builtin.Str.percentField _ _ _ = pf; cases pf <;> rfl) (by kpc_none) rfl rfl rfl rfl rfl rfl rfl rfl rfl (by decide) (by kpt_fact) (by kpt_fact) ?_
    intro _ _
    refine KPc.turn ?_
    kpc_check
    repeat kpc_if
    refine wpAny_pure ?_
    refine KPc.after_add (y := ⟨#[58]⟩) (by kpc_g) (by rfl) (KPc.obj_none (by rfl)) ?_
    intro _ _
    refine KPc.turn ?_
    kpc_check
    repeat kpc_if
    refine wpAny_bind ?_
    refine wpAny_holding ?_
    (repeat kpc_if)
    kpt_conv
    refine Mine.field3 (by kpc_g) (by dsimp only; generalize PySem.Builtin.Str.percentField _ _ _ = pf; cases pf <;> rfl) (by kpc_none) rfl rfl rfl rfl rfl rfl rfl rfl rfl (by decide) (by kpt_fact) (by kpt_fact) ?_
    intro _ _
    refine KPc.turn ?_
    kpc_check
    repeat kpc_if
    refine wpAny_pure ?_
    refine KPc.after_add (y := ⟨#[90]⟩) (by kpc_g) (by rfl) (KPc.obj_none (by rfl)) ?_
    intro _ _
    refine KPc.turn ?_
    kpc_check
    repeat kpc_if
    refine wpAny_pure ?_
    kpc_if
    refine KPc.finish_ok (T' := isoText y mo d hh mi ss) (by kpc_g) (by decide +kernel) (by kernel_rfl) ?_
    assumption
def netText (x z : PySem.Str) (y d hh mi ss : Int) : PySem.Str := PySem.Str.empty ++ x ++ ", " ++ padz 2 d ++ "-" ++ z ++ "-" ++ padz 4 y ++ " " ++ padz 2 hh ++ ":" ++ padz 2 mi ++ ":" ++ padz 2 ss ++ " GMT"
theorem net_mod {t1 t2 t3 t4 t5 t6 t7 : Tok} {x z : PySem.Str} {y d hh mi ss : Int} (N : News h₀ L s.heap news) (hb : (b, ({ cls := .type "tuple", data := .seq #[.str x t7, .int d t3, .str z t2, .int y t1, .int hh t4, .int mi t5, .int ss t6] n } : Obj)) ∈ news)
    (hy : 0 ≤ y ∧ y < 10 ^ 10) (hd : 0 ≤ d ∧ d < 10 ^ 10) (hhh : 0 ≤ hh ∧ hh < 10 ^ 10) (hmi : 0 ≤ mi ∧ mi < 10 ^ 10) (hss : 0 ≤ ss ∧ ss < 10 ^ 10) (hx : x.length ≤ 10) (hz : z.length ≤ 10)
    (h : ∀ t' k, Q (.str (netText x z y d hh mi ss) t') { s with toks := k }) : wpAny (model prog w) A (binaryOp .Mod (.str (PySem.Str.ofString "%s, %02d-%s-%04d %02d:%02d:%02d GMT") t) (.ref b)) Q E s := by
  obtain ⟨hy_0, hy_1⟩ := hy
  obtain ⟨hd_0, hd_1⟩ := hd
  obtain ⟨hhh_0, hhh_1⟩ := hhh
  obtain ⟨hmi_0, hmi_1⟩ := hmi
  obtain ⟨hss_0, hss_1⟩ := hss
  refine' KPt.mod_tuple N hb ?kptF ?kptm h
  case kptF => kpt_eq
  case kptm =>
    kpt_run
    refine KPc.turn ?_
    kpc_check
    repeat kpc_if
    refine wpAny_bind ?_
    refine wpAny_holding ?_
    (repeat kpc_if)
    kpt_conv
    refine wpAny_pure ?_
    with_unfolding_all refine wpAny_pure ?_
    refine KPc.after_str (K := 10) (by kpc_g) (by with_reducible assumption) (by kpc_obj) ?_
    intro _ _
    refine KPc.turn ?_
    kpc_check
    repeat kpc_if
    refine wpAny_pure ?_
    refine KPc.after_add (y := ⟨#[44, 32]⟩) (by kpc_g) (by rfl) (KPc.obj_none (by rfl)) ?_
    intro _ _
    refine KPc.turn ?_
    kpc_check
    repeat kpc_if
    refine wpAny_bind ?_
    refine wpAny_holding ?_
    (repeat kpc_if)
    kpt_conv
    refine Mine.field3 (by kpc_g) (by dsimp only; generalize PySem.Builtin.Str.percentField _ _ _ = pf; cases pf <;> rfl) (by kpc_none) rfl rfl rfl rfl rfl rfl rfl rfl rfl (by decide) (by kpt_fact) (by kpt_fact) ?_
    intro _ _
    refine KPc.turn ?_
    kpc_check
    repeat kpc_if
    refine wpAny_pure ?_
    refine KPc.after_add (y := ⟨#[45]⟩) (by kpc_g) (by rfl) (KPc.obj_none (by rfl)) ?_
    intro _ _
    refine KPc.turn ?_
    kpc_check
    repeat kpc_if
    refine wpAny_bind ?_
    refine wpAny_holding ?_
    (repeat kpc_if)
    kpt_conv
    refine wpAny_pure ?_
    with_unfolding_all refine wpAny_pure ?_
    refine KPc.after_str (K := 10) (by kpc_g) (by with_reducible assumption) (by kpc_obj) ?_
    intro _ _
    refine KPc.turn ?_
    kpc_check
    repeat kpc_if
    refine wpAny_pure ?_
    refine KPc.after_add (y := ⟨#[45]⟩) (by kpc_g) (by rfl) (KPc.obj_none (by rfl)) ?_
    intro _ _
    refine KPc.turn ?_
    kpc_check
    repeat kpc_if
    refine wpAny_bind ?_
    refine wpAny_holding ?_
    (repeat kpc_if)
    kpt_conv
    refine Mine.field3 (by kpc_g) (by dsimp only; generalize PySem.Builtin.Str.percentField _ _ _ = pf; cases pf <;> rfl) (by kpc_none) rfl rfl rfl rfl rfl rfl rfl rfl rfl (by decide) (by kpt_fact) (by kpt_fact) ?_
    intro _ _
    refine KPc.turn ?_
    kpc_check
    repeat kpc_if
    refine wpAny_pure ?_
    refine KPc.after_add (y := ⟨#[32]⟩) (by kpc_g) (by rfl) (KPc.obj_none (by rfl)) ?_
    intro _ _
    refine KPc.turn ?_
    kpc_check
    repeat kpc_if
    refine wpAny_bind ?_
    refine wpAny_holding ?_
    (repeat kpc_if)
    kpt_conv
    refine Mine.field3 (by kpc_g) (by dsimp only; generalize PySem.Builtin.Str.percentField _ _ _ = pf; cases pf <;> rfl) (by kpc_none) rfl rfl rfl rfl rfl rfl rfl rfl rfl (by decide) (by kpt_fact) (by kpt_fact) ?_
    intro _ _
    refine KPc.turn ?_
    kpc_check
    repeat kpc_if
    refine wpAny_pure ?_
    refine KPc.after_add (y := ⟨#[58]⟩) (by kpc_g) (by rfl) (KPc.obj_none (by rfl)) ?_
    intro _ _
    refine KPc.turn ?_
    kpc_check
    repeat kpc_if
    refine wpAny_bind ?_
    refine wpAny_holding ?_
    (repeat kpc_if)
    kpt_conv
    refine Mine.field3 (by kpc_g) (by dsimp only; generalize PySem.Builtin.Str.percentField _ _ _ = pf; cases pf <;> rfl) (by kpc_none) rfl rfl rfl rfl rfl rfl rfl rfl rfl (by decide) (by kpt_fact) (by kpt_fact) ?_
    intro _ _
    refine KPc.turn ?_
    kpc_check
    repeat kpc_if
    refine wpAny_pure ?_
    refine KPc.after_add (y := ⟨#[58]⟩) (by kpc_g) (by rfl) (KPc.obj_none (by rfl)) ?_
    intro _ _
    refine KPc.turn ?_
    kpc_check
    repeat kpc_if
    refine wpAny_bind ?_
    refine wpAny_holding ?_
    (repeat kpc_if)
    kpt_conv
    refine Mine.field3 (by kpc_g) (by dsimp only; generalize PySem.Builtin.Str.percentField _ _ _ = pf; cases pf <;> rfl) (by kpc_none) rfl rfl rfl rfl rfl rfl rfl rfl rfl (by decide) (by kpt_fact) (by kpt_fact) ?_
    intro _ _
    refine KPc.turn ?_
    kpc_check
    repeat kpc_if
    refine wpAny_pure ?_
    refine KPc.after_add (y := ⟨#[32, 71, 77, 84]⟩) (by kpc_g) (by rfl) (KPc.obj_none (by rfl)) ?_
    intro _ _
    refine KPc.turn ?_
    kpc_check
    repeat kpc_if
    refine wpAny_pure ?_
    kpc_if
    refine KPc.finish_ok (T' := netText x z y d hh mi ss) (by kpc_g) (by decide +kernel) (by kernel_rfl) ?_
    assumption
end
end Mine
end

section
open PySem PySem.W PyProof.Rows PySem.Calls PySem.Builtin PySem.Builtin.Str
set_option maxHeartbeats 8000000
namespace Mine
def two (n : Int) : PySem.Str := PySem.Str.ofString (toString (n.fdiv 10)) ++ PySem.Str.ofString (toString (n.fmod 10))
theorem padz2_all : ((List.range 100).all fun n => decide ((padz 2 (n : Int)).cps.toList = (two n).cps.toList)) = true := by decide +kernel
theorem str_ext {x y : PySem.Str} (h : x.cps.toList = y.cps.toList) : x = y := by
  cases x; cases y
  exact congrArg _ (Array.toList_inj.mp h)
theorem padz2 {n : Int} (h0 : 0 ≤ n) (h1 : n < 100) : padz 2 n = two n := by
  obtain ⟨m, rfl⟩ : ∃ m : Nat, n = (m : Int) := ⟨n.toNat, by omega⟩
  exact str_ext (of_decide_eq_true (List.all_eq_true.mp padz2_all m (List.mem_range.mpr (by omega))))
theorem digs (m : Nat) : (PySem.Str.ofString (toString (m : Int))).cps.toList = (Nat.toDigits 10 m).map Char.toNat := KIN.signs_num m
theorem digs1 {m : Nat} (h : m < 10) : Nat.toDigits 10 m = [Nat.digitChar m] := Nat.toDigits_of_lt_base h
theorem digsN {m : Nat} (h : 10 ≤ m) : Nat.toDigits 10 m = Nat.toDigits 10 (m / 10) ++ [Nat.digitChar (m % 10)] := Nat.toDigits_of_base_le (by decide) h
theorem two_list {m : Nat} (h : m < 100) : (two (m : Int)).cps.toList = [(Nat.digitChar (m / 10)).toNat, (Nat.digitChar (m % 10)).toNat] := by
  have e1 : (m : Int).fdiv 10 = ((m / 10 : Nat) : Int) := by rw [Int.fdiv_eq_ediv_of_nonneg _ (by decide)]; rfl
  have e2 : (m : Int).fmod 10 = ((m % 10 : Nat) : Int) := by rw [Int.fmod_eq_emod_of_nonneg _ (by decide)]; rfl
  unfold two
  rw [PySem.Str.cps_append, Array.toList_append, e1, e2, digs, digs, digs1 (by omega), digs1 (by omega)]
  rfl
theorem padz4 {n : Int} (h0 : 1000 ≤ n) (h1 : n < 10000) : padz 4 n = two (n.fdiv 100) ++ two (n.fmod 100) := by
  obtain ⟨m, rfl⟩ : ∃ m : Nat, n = (m : Int) := ⟨n.toNat, by omega⟩
  have e1 : (m : Int).fdiv 100 = ((m / 100 : Nat) : Int) := by rw [Int.fdiv_eq_ediv_of_nonneg _ (by decide)]; rfl
  have e2 : (m : Int).fmod 100 = ((m % 100 : Nat) : Int) := by rw [Int.fmod_eq_emod_of_nonneg _ (by decide)]; rfl
  refine str_ext ?_
  have e : (PySem.Str.ofString (toString (m : Int))).cps.toList = [(Nat.digitChar (m / 100 / 10)).toNat, (Nat.digitChar (m / 100 % 10)).toNat, (Nat.digitChar (m % 100 / 10)).toNat, (Nat.digitChar (m % 100 % 10)).toNat] := by
    rw [digs, digsN (by omega), digsN (m := m / 10) (by omega), digsN (m := m / 10 / 10) (by omega), digs1 (m := m / 10 / 10 / 10) (by omega)]
    have a1 : m / 10 / 10 / 10 = m / 100 / 10 := by omega
    have a2 : m / 10 / 10 % 10 = m / 100 % 10 := by omega
    have a3 : m / 10 % 10 = m % 100 / 10 := by omega
    have a4 : m % 10 = m % 100 % 10 := by omega
    rw [a1, a2, a3, a4]
    rfl
  rw [PySem.Str.cps_append, Array.toList_append, e1, e2, two_list (by omega), two_list (by omega)]
  show (List.replicate (4 - (PySem.Str.ofString (toString (m : Int))).cps.toList.length) 48 ++ (PySem.Str.ofString (toString (m : Int))).cps.toList) = _
  rw [e]
  rfl
end Mine
end

section
open PySem PySem.W PyProof.Rows PySem.Calls PySem.Builtin PySem.Builtin.Str PySem.Builtin._datetime
set_option maxHeartbeats 8000000
namespace Mine
def yearT (y : Int) : PySem.Str := two (y.fdiv 100) ++ two (y.fmod 100)
def clockT (hh mi ss : Int) : PySem.Str := two hh ++ ":" ++ two mi ++ ":" ++ two ss
def isoLaw (y mo d hh mi ss : Int) : PySem.Str := yearT y ++ "-" ++ two mo ++ "-" ++ two d ++ " " ++ clockT hh mi ss ++ "Z"
def netLaw (x z : PySem.Str) (y d hh mi ss : Int) : PySem.Str := x ++ ", " ++ two d ++ "-" ++ z ++ "-" ++ yearT y ++ " " ++ clockT hh mi ss ++ " GMT"
theorem iso_eq {y mo d hh mi ss : Int} (V : Valid y mo d hh mi ss) (h0 : 1000 ≤ y) (h9 : y ≤ 9999) : isoText y mo d hh mi ss = isoLaw y mo d hh mi ss := by
  have hd := (dim_pos y mo V.m1 V.m2).2
  have v1 := V.h1; have v2 := V.h2; have v3 := V.i1; have v4 := V.i2; have v5 := V.s1; have v6 := V.s2; have v7 := V.m1; have v8 := V.m2; have v9 := V.d1; have v10 := V.d2
  unfold isoText isoLaw yearT clockT
  rw [padz4 h0 (by omega), padz2 (n := mo) (by omega) (by omega), padz2 (n := d) (by omega) (by omega), padz2 (n := hh) (by omega) (by omega), padz2 (n := mi) (by omega) (by omega), padz2 (n := ss) (by omega) (by omega)]
  refine str_ext ?_
  simp only [PySem.Str.cps_append, Array.toList_append, List.append_assoc, PySem.Str.empty, List.nil_append]
theorem net_eq {x z : PySem.Str} {y mo d hh mi ss : Int} (V : Valid y mo d hh mi ss) (h0 : 1000 ≤ y) (h9 : y ≤ 9999) : netText x z y d hh mi ss = netLaw x z y d hh mi ss := by
  have hd := (dim_pos y mo V.m1 V.m2).2
  have v1 := V.h1; have v2 := V.h2; have v3 := V.i1; have v4 := V.i2; have v5 := V.s1; have v6 := V.s2; have v7 := V.m1; have v8 := V.m2; have v9 := V.d1; have v10 := V.d2
  unfold netText netLaw yearT clockT
  rw [padz4 h0 (by omega), padz2 (n := d) (by omega) (by omega), padz2 (n := hh) (by omega) (by omega), padz2 (n := mi) (by omega) (by omega), padz2 (n := ss) (by omega) (by omega)]
  refine str_ext ?_
  simp only [PySem.Str.cps_append, Array.toList_append, List.append_assoc, PySem.Str.empty, List.nil_append]
section
variable {prog : Program} {w : World} {A : Around} {E : Value → Shared → Prop} {s : Shared} {t u : Tok} {Q : Value → Shared → Prop} {b L : Addr} {n : Nat} {h₀ : Heap} {news : List (Addr × Obj)}
theorem iso_modV {t1 t2 t3 t4 t5 t6 : Tok} {y mo d hh mi ss : Int} (N : News h₀ L s.heap news) (hb : (b, ({ cls := .type "tuple", data := .seq #[.int y t1, .int mo t2, .int d t3, .int hh t4, .int mi t5, .int ss t6] n } : Obj)) ∈ news)
    (V : Valid y mo d hh mi ss) (h0 : 1000 ≤ y) (h9 : y ≤ 9999)
    (h : ∀ t' k, Q (.str (isoLaw y mo d hh mi ss) t') { s with toks := k }) : wpAny (model prog w) A (binaryOp .Mod (.str (PySem.Str.ofString "%04d-%02d-%02d %02d:%02d:%02dZ") t) (.ref b)) Q E s := by
  have hd := (dim_pos y mo V.m1 V.m2).2
  have v1 := V.h1; have v2 := V.h2; have v3 := V.i1; have v4 := V.i2; have v5 := V.s1; have v6 := V.s2; have v7 := V.m1; have v8 := V.m2; have v9 := V.d1; have v10 := V.d2
  refine iso_mod (t7 := t1) N hb ⟨by omega, by omega⟩ ⟨by omega, by omega⟩ ⟨by omega, by omega⟩ ⟨by omega, by omega⟩ ⟨by omega, by omega⟩ ⟨by omega, by omega⟩ ?_
  rw [iso_eq V h0 h9]
  exact h
theorem net_modV {x z : PySem.Str} {t1 t2 t3 t4 t5 t6 t7 : Tok} {y mo d hh mi ss : Int} (N : News h₀ L s.heap news) (hb : (b, ({ cls := .type "tuple", data := .seq #[.str x t7, .int d t3, .str z t2, .int y t1, .int hh t4, .int mi t5, .int ss t6] n } : Obj)) ∈ news)
    (V : Valid y mo d hh mi ss) (h0 : 1000 ≤ y) (h9 : y ≤ 9999) (hx : x.length ≤ 10) (hz : z.length ≤ 10)
    (h : ∀ t' k, Q (.str (netLaw x z y d hh mi ss) t') { s with toks := k }) : wpAny (model prog w) A (binaryOp .Mod (.str (PySem.Str.ofString "%s, %02d-%s-%04d %02d:%02d:%02d GMT") t) (.ref b)) Q E s := by
  have hd := (dim_pos y mo V.m1 V.m2).2
  have v1 := V.h1; have v2 := V.h2; have v3 := V.i1; have v4 := V.i2; have v5 := V.s1; have v6 := V.s2; have v7 := V.m1; have v8 := V.m2; have v9 := V.d1; have v10 := V.d2
  refine net_mod N hb ⟨by omega, by omega⟩ ⟨by omega, by omega⟩ ⟨by omega, by omega⟩ ⟨by omega, by omega⟩ ⟨by omega, by omega⟩ hx hz ?_
  rw [net_eq V h0 h9]
  exact h
end
end Mine
end

section
open PySem PySem.W PyProof.Rows PySem.Calls PySem.Builtin._datetime
set_option maxHeartbeats 8000000
namespace Mine
section
variable {h₀ h h' : Heap} {L : Addr} {m : Str → Option Value} {news : List (Addr × Obj)} {s : Shared} {Q : Value → Shared → Prop} {tk' : Nat} {p : Addr × Obj}
theorem tl (N : News h₀ L h (p :: news)) : News h₀ L h news := fun q hq => N q (.tail _ hq)
theorem dup {q : Addr} {o : Obj} (hq : (q, o) ∈ news) (N : News h₀ L h news) : News h₀ L h ((q, o) :: news) := fun p hp => by
  rcases List.mem_cons.mp hp with rfl | hp
  · exact N _ hq
  · exact N _ hp
theorem raised_tl {base G : Heap} {l : List Env} {e : Addr} {cls : Value} (R : RaisedSN base G l e cls (p :: news) h) : RaisedSN base G l e cls news h := by
  obtain ⟨B, a0, hB, h1, hl, hfl⟩ := R
  exact ⟨B, a0, hB, h1, fun q hq => hl q (.tail _ hq), hfl⟩
theorem end_int {x y : Int} {t : Tok} (hret : ∀ t h' tk', Fr h₀ L h' m → News h₀ L h' news → Q (.int x t) { s with heap := h', toks := tk' }) (F : Fr h₀ L h' m) (N : News h₀ L h' news) (e : y = x) : Q (.int y t) { s with heap := h', toks := tk' } := by
  subst e
  exact hret t h' tk' F N
theorem end_str {x y : PySem.Str} {t : Tok} (hret : ∀ t h' tk', Fr h₀ L h' m → News h₀ L h' news → Q (.str x t) { s with heap := h', toks := tk' }) (F : Fr h₀ L h' m) (N : News h₀ L h' news) (e : y = x) : Q (.str y t) { s with heap := h', toks := tk' } := by
  subst e
  exact hret t h' tk' F N
end
open PySem.Builtin.Time (timeCivil timeIsLeap timeDaysBefore)
theorem fmod_mod (a b : Int) (h : 0 ≤ b) : a.fmod b = a % b := Int.fmod_eq_emod_of_nonneg a h
theorem fdiv_div (a b : Int) (h : 0 ≤ b) : a.fdiv b = a / b := Int.fdiv_eq_ediv_of_nonneg a h
theorem leap400 {y : Int} (h : y.fmod 400 = 0) : timeIsLeap y = true := by
  rw [fmod_mod _ _ (by decide)] at h
  unfold timeIsLeap
  simp only [Bool.and_eq_true, Bool.or_eq_true, beq_iff_eq, bne_iff_ne, ne_eq]
  omega
theorem leap4 {y : Int} (h : y.fmod 4 = 0) (h1 : y.fmod 100 ≠ 0) : timeIsLeap y = true := by
  rw [fmod_mod _ _ (by decide)] at h h1
  unfold timeIsLeap
  simp only [Bool.and_eq_true, Bool.or_eq_true, beq_iff_eq, bne_iff_ne, ne_eq]
  omega
theorem leapN {y : Int} (h0 : ¬ y.fmod 400 = 0) (h : ¬ y.fmod 4 = 0) : timeIsLeap y = false := by
  rw [fmod_mod _ _ (by decide)] at h0 h
  refine Bool.eq_false_iff.mpr fun q => ?_
  unfold timeIsLeap at q
  simp only [Bool.and_eq_true, Bool.or_eq_true, beq_iff_eq, bne_iff_ne, ne_eq] at q
  omega
theorem leapN2 {y : Int} (h0 : ¬ y.fmod 400 = 0) (h : ¬ y.fmod 100 ≠ 0) : timeIsLeap y = false := by
  rw [fmod_mod _ _ (by decide)] at h0 h
  refine Bool.eq_false_iff.mpr fun q => ?_
  unfold timeIsLeap at q
  simp only [Bool.and_eq_true, Bool.or_eq_true, beq_iff_eq, bne_iff_ne, ne_eq] at q
  omega
theorem leapN3 {y : Int} (h0 : y.fmod 400 ≠ 0) (h : y.fmod 100 = 0) : timeIsLeap y = false := leapN2 h0 (fun q => q h)
theorem len29 {y mo : Int} (h : mo = 2) (l : timeIsLeap y = true) : 29 = daysInMonth y mo := by
  subst h; rw [dim_of y 2 (by decide) (by decide), l]; rfl
theorem len28 {y mo : Int} (h : mo = 2) (l : timeIsLeap y = false) : 28 = daysInMonth y mo := by
  subst h; rw [dim_of y 2 (by decide) (by decide), l]; rfl
theorem len30 {y mo : Int} (h1 : 1 ≤ mo) (h2 : mo ≤ 12) (h : mo = 4 ∨ mo = 6 ∨ mo = 9 ∨ mo = 11) : 30 = daysInMonth y mo := by
  rw [dim_of y mo h1 h2, if_neg (by omega), if_pos h]
theorem len31 {y mo : Int} (h1 : 1 ≤ mo) (h2 : mo ≤ 12) (h0 : ¬ mo = 2) (h : ¬ (mo = 4 ∨ mo = 6 ∨ mo = 9 ∨ mo = 11)) : 31 = daysInMonth y mo := by
  rw [dim_of y mo h1 h2, if_neg h0, if_neg h]
theorem len30a {y mo : Int} (h1 : 1 ≤ mo) (h2 : mo ≤ 12) (h : ([4, 6, 9, 11].any fun x => x == mo) = true) : 30 = daysInMonth y mo := by
  refine len30 h1 h2 ?_
  simp only [List.any_cons, List.any_nil, Bool.or_eq_true, beq_iff_eq, Bool.false_eq_true, or_false] at h
  omega
theorem len31a {y mo : Int} (h1 : 1 ≤ mo) (h2 : mo ≤ 12) (h0 : mo ≠ 2) (h : ([4, 6, 9, 11].any fun x => x == mo) = false) : 31 = daysInMonth y mo := by
  refine len31 h1 h2 h0 fun q => ?_
  have : ([4, 6, 9, 11].any fun x => x == mo) = true := by
    simp only [List.any_cons, List.any_nil, Bool.or_eq_true, beq_iff_eq, Bool.false_eq_true, or_false]
    omega
  rw [this] at h
  cases h
/-- the name of a day by its place behind Saturday -/
def weekT (y mo d : Int) : PySem.Str := [Str.ofString "Sat", Str.ofString "Sun", Str.ofString "Mon", Str.ofString "Tue", Str.ofString "Wed", Str.ofString "Thu", Str.ofString "Fri"].getD ((toOrdinal y mo d + 1) % 7).toNat Str.empty
def monT (mo : Int) : PySem.Str := [Str.ofString "Jan", Str.ofString "Feb", Str.ofString "Mar", Str.ofString "Apr", Str.ofString "May", Str.ofString "Jun", Str.ofString "Jul", Str.ofString "Aug", Str.ofString "Sep", Str.ofString "Oct", Str.ofString "Nov", Str.ofString "Dec"].getD (mo - 1).toNat Str.empty
theorem getD_len {l : List PySem.Str} (h : (l.all fun x => decide (x.length ≤ 10)) = true) (i : Nat) : (l.getD i Str.empty).length ≤ 10 := by
  rw [List.getD_eq_getElem?_getD]
  cases e : l[i]? with
  | none => decide
  | some x => exact of_decide_eq_true (List.all_eq_true.mp h x (List.mem_of_getElem? e))
theorem week_late (y mo d : Int) (h3 : 3 ≤ mo) (h4 : mo ≤ 12) : [Str.ofString "Sat", Str.ofString "Sun", Str.ofString "Mon", Str.ofString "Tue", Str.ofString "Wed", Str.ofString "Thu", Str.ofString "Fri"].getD
    ((d + (13 * (mo + 1)).fdiv 5 + y.fmod 100 + (y.fmod 100).fdiv 4 + (y.fdiv 100).fdiv 4 + 5 * y.fdiv 100).fmod 7).toNat Str.empty = weekT y mo d := by
  unfold weekT
  rw [← zeller_late y mo d h3 h4]
  simp only [fmod_mod _ 7 (by decide), fmod_mod _ 100 (by decide), fdiv_div _ 5 (by decide), fdiv_div _ 4 (by decide), fdiv_div _ 100 (by decide)]
theorem week_soon (y mo d : Int) (h3 : 1 ≤ mo) (h4 : mo ≤ 2) : [Str.ofString "Sat", Str.ofString "Sun", Str.ofString "Mon", Str.ofString "Tue", Str.ofString "Wed", Str.ofString "Thu", Str.ofString "Fri"].getD
    ((d + (13 * (mo + 12 + 1)).fdiv 5 + (y - 1).fmod 100 + ((y - 1).fmod 100).fdiv 4 + ((y - 1).fdiv 100).fdiv 4 + 5 * (y - 1).fdiv 100).fmod 7).toNat Str.empty = weekT y mo d := by
  unfold weekT
  rw [← zeller_soon y mo d h3 h4]
  simp only [fmod_mod _ 7 (by decide), fmod_mod _ 100 (by decide), fdiv_div _ 5 (by decide), fdiv_div _ 4 (by decide), fdiv_div _ 100 (by decide)]
end Mine
end

section
open PySem PySem.W PyProof.Rows PySem.Calls PySem.Builtin._datetime
set_option maxHeartbeats 8000000
namespace Mine
section
variable {prog : Program} {w : World} {A : Around} {E : Value → Shared → Prop} {s : Shared} {a : Addr} {o : Obj}
theorem weekday_callK {y mo dd : Int} {t1 t2 t3 : Tok} {rest : List Value} {Q : Value → Shared → Prop} (hx : s.heap.get? a = some o) (hc : o.cls = .type "datetime.datetime")
    (hd : o.data = .fields (.int y t1 :: .int mo t2 :: .int dd t3 :: rest).toArray) (hq : ∀ k, 0 ≤ k → k < 7 → k = weekdayOf (toOrdinal y mo dd) → Q (.int k s.toks) { s with toks := s.toks + 1 }) : wpAny (model prog w) A (call (.builtin "datetime.date.weekday") [.ref a]) Q E s := by
  refine weekday_call hx hc hd (hq _ ?_ ?_ rfl) <;> (unfold weekdayOf; omega)
end
theorem day_eq (o : Int) : [Str.ofString "Mon", Str.ofString "Tue", Str.ofString "Wed", Str.ofString "Thu", Str.ofString "Fri", Str.ofString "Sat", Str.ofString "Sun"].getD (weekdayOf o).toNat Str.empty
    = [Str.ofString "Sat", Str.ofString "Sun", Str.ofString "Mon", Str.ofString "Tue", Str.ofString "Wed", Str.ofString "Thu", Str.ofString "Fri"].getD ((o + 1) % 7).toNat Str.empty := by
  unfold weekdayOf
  have h : o % 7 = 0 ∨ o % 7 = 1 ∨ o % 7 = 2 ∨ o % 7 = 3 ∨ o % 7 = 4 ∨ o % 7 = 5 ∨ o % 7 = 6 := by omega
  rcases h with h | h | h | h | h | h | h
  · rw [show (o + 6) % 7 = 6 by omega, show (o + 1) % 7 = 1 by omega]; rfl
  · rw [show (o + 6) % 7 = 0 by omega, show (o + 1) % 7 = 2 by omega]; rfl
  · rw [show (o + 6) % 7 = 1 by omega, show (o + 1) % 7 = 3 by omega]; rfl
  · rw [show (o + 6) % 7 = 2 by omega, show (o + 1) % 7 = 4 by omega]; rfl
  · rw [show (o + 6) % 7 = 3 by omega, show (o + 1) % 7 = 5 by omega]; rfl
  · rw [show (o + 6) % 7 = 4 by omega, show (o + 1) % 7 = 6 by omega]; rfl
  · rw [show (o + 6) % 7 = 5 by omega, show (o + 1) % 7 = 0 by omega]; rfl
theorem net_end {k y mo dd hh mi ss : Int} (hk : k = weekdayOf (toOrdinal y mo dd)) : netLaw ([Str.ofString "Mon", Str.ofString "Tue", Str.ofString "Wed", Str.ofString "Thu", Str.ofString "Fri", Str.ofString "Sat", Str.ofString "Sun"].getD k.toNat Str.empty)
    ([Str.ofString "Jan", Str.ofString "Feb", Str.ofString "Mar", Str.ofString "Apr", Str.ofString "May", Str.ofString "Jun", Str.ofString "Jul", Str.ofString "Aug", Str.ofString "Sep", Str.ofString "Oct", Str.ofString "Nov", Str.ofString "Dec"].getD (mo - 1).toNat Str.empty) y dd hh mi ss = netLaw (weekT y mo dd) (monT mo) y dd hh mi ss := by
  subst hk
  rw [day_eq]
  rfl
structure Carried (y mo d hh mi ss y' mo' d' hh' mi' ss' : Int) : Prop where
  V : Valid y' mo' d' hh' mi' ss'
  M : (((toOrdinal y mo 1 - 719163 + d - 1) * 24 + hh) * 60 + mi) * 60 + ss = momentOf y' mo' d' hh' mi' ss'
  Y : y ≤ y'
theorem whlIf_split {p : Prop} [Decidable p] {T F : Prop} (t : p → T) (f : ¬ p → F) : WhlIf (decide p) T F := by
  by_cases h : p
  · exact WhlIf.yes (decide_eq_true h) (t h)
  · exact WhlIf.no (decide_eq_false h) (f h)
theorem whlIf_no {p : Prop} [Decidable p] {T F : Prop} (h : ¬ p) (f : F) : WhlIf (decide p) T F := WhlIf.no (decide_eq_false h) f
theorem add_b {prog : Program} {w : World} {A : Around} {E : Value → Shared → Prop} {s : Shared} {x y : PySem.Str} {t u : Tok} {i j : Nat} {Q : Value → Shared → Prop} (hx : x.length ≤ i) (hy : y.length ≤ j) (hs : i + j ≤ 1000)
    (h : (x ++ y).length ≤ i + j → ∀ t' k, Q (.str (x ++ y) t') { s with toks := k }) : wpAny (model prog w) A (binaryOp .Add (.str x t) (.str y u)) Q E s :=
  PyProof.Rows.add_str (h (by rw [PySem.Str.length_append]; omega)) (by rw [sizeLine_eq]; omega)
theorem two_len (n : Int) (h0 : 0 ≤ n) (h1 : n < 100) : (two n).length ≤ 4 := by
  rw [← padz2 h0 h1]
  have e : ∀ m : Nat, m < 100 → (padz 2 (m : Int)).length ≤ 4 := by
    intro m hm
    have q : ((List.range 100).all fun n => decide ((padz 2 (n : Int)).length ≤ 4)) = true := by decide +kernel
    exact of_decide_eq_true (List.all_eq_true.mp q m (List.mem_range.mpr hm))
  obtain ⟨m, rfl⟩ : ∃ m : Nat, n = (m : Int) := ⟨n.toNat, by omega⟩
  exact e m (by omega)
theorem week_len (y mo d : Int) : (weekT y mo d).length ≤ 10 := getD_len (by decide) _
theorem mon_len (mo : Int) : (monT mo).length ≤ 10 := getD_len (by decide) _
theorem mon_slice (mo : Int) (h1 : 1 ≤ mo) (h2 : mo ≤ 12) : Txt.slice (Str.ofString "JanFebMarAprMayJunJulAugSepOctNovDec") (some (3 * mo - 3)) (some (3 * mo)) = monT mo := by
  have h : mo = 1 ∨ mo = 2 ∨ mo = 3 ∨ mo = 4 ∨ mo = 5 ∨ mo = 6 ∨ mo = 7 ∨ mo = 8 ∨ mo = 9 ∨ mo = 10 ∨ mo = 11 ∨ mo = 12 := by omega
  rcases h with h | h | h | h | h | h | h | h | h | h | h | h <;> subst h <;> decide +kernel
theorem texts_end {h₀ h' : Heap} {L : Addr} {m : Str → Option Value} {news : List (Addr × Obj)} {s : Shared} {Q : Value → Shared → Prop} {tk' n : Nat} {p : Addr × Obj} {T : Addr} {u1 u2 : Tok} {y mo d hh mi ss : Int} (hm : 1 ≤ mo ∧ mo ≤ 12)
    (hret : ∀ T u1 u2 h' tk' n, Fr h₀ L h' m → News h₀ L h' ((T, W.listOf #[.str (isoLaw y mo d hh mi ss) u1, .str (netLaw (weekT y mo d) (monT mo) y d hh mi ss) u2] n) :: news) → Q (.ref T) {s with heap := h', toks := tk'}) (F : Fr h₀ L h' m)
    (N : News h₀ L h' ((T, W.listOf #[.str (isoLaw y mo d hh mi ss) u1, .str (netLaw (weekT y mo d) (Txt.slice (Str.ofString "JanFebMarAprMayJunJulAugSepOctNovDec") (some (3 * mo - 3)) (some (3 * mo))) y d hh mi ss) u2] n) :: p :: news)) : Q (.ref T) {s with heap := h', toks := tk'} := by
  rw [mon_slice mo hm.1 hm.2] at N
  refine hret T u1 u2 h' tk' n F fun q hq => ?_
  rcases List.mem_cons.mp hq with rfl | hq
  · exact N _ (.head _)
  · exact N _ (.tail _ (.tail _ hq))
theorem car_end {h₀ h' : Heap} {L : Addr} {m : Str → Option Value} {news : List (Addr × Obj)} {s : Shared} {Q : Value → Shared → Prop} {tk' n : Nat} {p : Addr × Obj} {T : Addr} {u1 u2 u3 u4 u5 u6 : Tok} {y mo d hh mi ss y' mo' d' hh' mi' ss' : Int}
    (hret : ∀ y' mo' d' hh' mi' ss' u1 u2 u3 u4 u5 u6 T h' tk' n, Carried y mo d hh mi ss y' mo' d' hh' mi' ss' → Fr h₀ L h' m → News h₀ L h' ((T, W.listOf #[.int y' u1, .int mo' u2, .int d' u3, .int hh' u4, .int mi' u5, .int ss' u6] n) :: news) → Q (.ref T) {s with heap := h', toks := tk'})
    (F : Fr h₀ L h' m) (N : News h₀ L h' ((T, W.listOf #[.int y' u1, .int mo' u2, .int d' u3, .int hh' u4, .int mi' u5, .int ss' u6] n) :: p :: news)) (C : Carried y mo d hh mi ss y' mo' d' hh' mi' ss') : Q (.ref T) {s with heap := h', toks := tk'} := by
  refine hret _ _ _ _ _ _ u1 u2 u3 u4 u5 u6 T h' tk' n C F fun q hq => ?_
  rcases List.mem_cons.mp hq with rfl | hq
  · exact N _ (.head _)
  · exact N _ (.tail _ (.tail _ hq))
theorem first_of (y mo D : Int) : toOrdinal y mo D = toOrdinal y mo 1 + D - 1 := by
  have := ord_shift y mo 1 (D - 1)
  rw [show (1 : Int) + (D - 1) = D by omega] at this
  omega
theorem carried_stay {y mo d hh mi ss D hh' mi' ss' : Int} (hy : 1970 ≤ y ∧ y ≤ 9999) (hm : 1 ≤ mo ∧ mo ≤ 12) (hD : 1 ≤ D ∧ D ≤ daysInMonth y mo)
    (hc : D * 86400 + hh' * 3600 + mi' * 60 + ss' = d * 86400 + hh * 3600 + mi * 60 + ss) (b : 0 ≤ hh' ∧ hh' ≤ 23 ∧ 0 ≤ mi' ∧ mi' ≤ 59 ∧ 0 ≤ ss' ∧ ss' ≤ 59) : Carried y mo d hh mi ss y mo D hh' mi' ss' := by
  refine ⟨⟨by omega, by omega, hm.1, hm.2, hD.1, hD.2, b.1, b.2.1, b.2.2.1, b.2.2.2.1, b.2.2.2.2.1, b.2.2.2.2.2⟩, ?_, by omega⟩
  unfold momentOf
  rw [first_of y mo D]
  generalize toOrdinal y mo 1 = o
  omega
theorem carried_month {y mo d hh mi ss D hh' mi' ss' : Int} (hy : 1970 ≤ y ∧ y ≤ 9999) (hm : 1 ≤ mo ∧ mo ≤ 11) (hD : daysInMonth y mo < D ∧ D ≤ 32)
    (hc : D * 86400 + hh' * 3600 + mi' * 60 + ss' = d * 86400 + hh * 3600 + mi * 60 + ss) (b : 0 ≤ hh' ∧ hh' ≤ 23 ∧ 0 ≤ mi' ∧ mi' ≤ 59 ∧ 0 ≤ ss' ∧ ss' ≤ 59) : Carried y mo d hh mi ss y (mo + 1) (D - daysInMonth y mo) hh' mi' ss' := by
  have h1 := dim_pos y mo hm.1 (by omega)
  have h2 := dim_pos y (mo + 1) (by omega) (by omega)
  refine ⟨⟨by omega, by omega, by omega, by omega, by omega, by omega, b.1, b.2.1, b.2.2.1, b.2.2.2.1, b.2.2.2.2.1, b.2.2.2.2.2⟩, ?_, by omega⟩
  unfold momentOf
  rw [ord_carry y mo D hm.1 hm.2, first_of y mo D]
  generalize toOrdinal y mo 1 = o
  omega
theorem carried_year {y mo d hh mi ss D hh' mi' ss' : Int} (hy : 1970 ≤ y ∧ y ≤ 9999) (hm : mo = 12) (hD : daysInMonth y mo < D ∧ D ≤ 32)
    (hc : D * 86400 + hh' * 3600 + mi' * 60 + ss' = d * 86400 + hh * 3600 + mi * 60 + ss) (b : 0 ≤ hh' ∧ hh' ≤ 23 ∧ 0 ≤ mi' ∧ mi' ≤ 59 ∧ 0 ≤ ss' ∧ ss' ≤ 59) : Carried y mo d hh mi ss (y + 1) 1 (D - daysInMonth y mo) hh' mi' ss' := by
  subst hm
  have h1 := dim_pos y 12 (by decide) (by decide)
  have h2 := dim_pos (y + 1) 1 (by decide) (by decide)
  refine ⟨⟨by omega, by omega, by decide, by decide, by omega, by omega, b.1, b.2.1, b.2.2.1, b.2.2.2.1, b.2.2.2.2.1, b.2.2.2.2.2⟩, ?_, by omega⟩
  unfold momentOf
  rw [ord_year y D, first_of y 12 D]
  generalize toOrdinal y 12 1 = o
  omega
end Mine
end

section
open PySem PySem.W PyProof.Rows PySem.Calls PySem.Builtin._datetime
set_option maxHeartbeats 8000000
namespace Mine
section
variable {prog : Program} {w : World} {A : Around} {E : Value → Shared → Prop} {s : Shared} {h₀ : Heap} {L : Addr} {m : Str → Option Value} {news : List (Addr × Obj)}
theorem isList_of {h : Heap} {l : Addr} {its : Array Value} {n : Nat} (N : News h₀ L h news) (hm : (l, W.listOf its n) ∈ news) : h.IsList l its := News.isList N hm
theorem slice_two {value slice : Expr} {l : Addr} {x y : Value} {n : Nat} {k : Int} {u : Tok} {Q : Value → Shared → Prop} (F : Fr h₀ L s.heap m) (N : News h₀ L s.heap news) (hm : (l, W.listOf #[x, y] n) ∈ news)
    (h : ∀ rest T h', rest.length ≤ 2 → Fr h₀ L h' m → News h₀ L h' ((T, lstObj rest) :: news) → Q (.ref T) { s with heap := h' })
    (hs : subscripted slice false (.ref l) (.ref s.heap.objs.size) = operate [.ref s.heap.objs.size, .ref l] (getItem (.ref l) (.ref s.heap.objs.size)) := by with_unfolding_all rfl)
    (ht : ∀ r, letTemporaryGo value (.ref l) r = pure () := by intro _; with_unfolding_all rfl) :
    wpAny (model prog w) A (subscriptTail value slice (.ref l) (.ref s.heap.objs.size)) Q E { s with heap := s.heap.push { cls := .type "slice", data := .fields #[.none, .int k u, .none] } } := by
  refine slice_list F N (isList_of N hm) .none (.int k u) (fun h' F' N' => ?_) hs ht (by rw [sizeLine_eq]; exact (by decide : 2 ≤ 16777216))
  refine h (slicePick #[x, y] none (some k) none).toList _ h' ?_ F' ?_
  · rw [Array.length_toList]
    exact slicePick_size_le #[x, y] none (some k) none
  · have e : lstObj (slicePick #[x, y] none (some k) none).toList = { cls := .type "list", data := .seq (slicePick #[x, y] none (some k) none) } := by
      unfold lstObj
      rw [Array.toArray_toList]
    rw [e]
    exact N'
theorem add_six {l b : Addr} {v1 v2 v3 v4 v5 v6 : Value} {n : Nat} {rest : List Value} {Q : Value → Shared → Prop} (F : Fr h₀ L s.heap m) (N : News h₀ L s.heap news) (hm : (l, W.listOf #[v1, v2, v3, v4, v5, v6] n) ∈ news) (hb : (b, lstObj rest) ∈ news) (hr : rest.length ≤ 2)
    (h : ∀ T h', Fr h₀ L h' m → News h₀ L h' ((T, lstObj (v1 :: v2 :: v3 :: v4 :: v5 :: v6 :: rest)) :: news) → Q (.ref T) { s with heap := h' }) : wpAny (model prog w) A (binaryOp .Add (.ref l) (.ref b)) Q E s := by
  refine add_arrays F N (isList_of N hm) (isList_of (n := 0) N hb) (fun h' F' N' => h _ h' F' ?_) ?_
  · exact N'
  · rw [List.size_toArray, sizeLine_eq]
    show 6 + rest.length ≤ _
    omega
theorem tuple_six {l : Addr} {vs : List Value} {Q : Value → Shared → Prop} (F : Fr h₀ L s.heap m) (N : News h₀ L s.heap news) (hm : (l, lstObj vs) ∈ news) (hr : vs.length ≤ 100)
    (h : ∀ T h', Fr h₀ L h' m → News h₀ L h' ((T, tupObj vs) :: news) → Q (.ref T) { s with heap := h' }) : wpAny (model prog w) A (call (.type "tuple") [.ref l]) Q E s :=
  tuple_ofL F N (isList_of (n := 0) N hm) (fun D h' F' N' _ => h D h' F' N') (by rw [sizeLine_eq]; omega)
theorem eq_two {l b : Addr} {x y : PySem.Str} {t1 t2 t3 t4 : Tok} {n1 n2 : Nat} {Q : Value → Shared → Prop} (N : News h₀ L s.heap news) (hl : (l, W.listOf #[.str x t1, .str y t2] n1) ∈ news) (hb : (b, W.listOf #[.str x t3, .str y t4] n2) ∈ news) (hu : A.units < cLine)
    (h : Q (.bool true) s) : wpAny (model prog w) A (compareOp .Eq (.ref l) (.ref b)) Q E s := by
  refine PySem.SeqAt.eq_listAt (e := fun _ => true) (isList_of N hl) (isList_of N hb) rfl hu (fun j h1 h2 => ?_) h
  match j, h1 with
  | 0, _ =>
    have q := PySem.SeqAt.EqAt.str_str (A := A.in1) (s := s) x t1 x t3
    rw [beq_self_eq_true] at q
    exact q
  | 1, _ =>
    have q := PySem.SeqAt.EqAt.str_str (A := A.in1) (s := s) y t2 y t4
    rw [beq_self_eq_true] at q
    exact q
end
end Mine
end

section
open PySem PySem.W PyProof.Rows PySem.Calls PySem.Builtin._datetime
set_option maxHeartbeats 8000000
namespace Mine
/-- the bounds of the built fields -/
structure Flds (y mo d hh mi ss : Int) : Prop where
  y0 : 1960 ≤ y
  y1 : y ≤ 10010
  m0 : 0 ≤ mo
  m1 : mo ≤ 13
  d0 : 0 ≤ d
  d1 : d ≤ 36
  h0 : -1 ≤ hh
  h1 : hh ≤ 25
  i0 : -1 ≤ mi
  i1 : mi ≤ 65
  s0 : -1 ≤ ss
  s1 : ss ≤ 63
theorem flds_of (x : Int) : Flds ((40 - x).fmod 8051 + 1960) ((2 - x).fmod 14) ((31 - x).fmod 37) ((25 - x).fmod 27 - 1) ((60 - x).fmod 67 - 1) ((62 - x).fmod 65 - 1) := by
  simp only [fmod_mod _ 8051 (by decide), fmod_mod _ 14 (by decide), fmod_mod _ 37 (by decide), fmod_mod _ 27 (by decide), fmod_mod _ 67 (by decide), fmod_mod _ 65 (by decide)]
  constructor <;> omega
theorem item0 {prog : Program} {w : World} {A : Around} {E : Value → Shared → Prop} {s : Shared} {h₀ : Heap} {L : Addr} {news : List (Addr × Obj)} {value slice : PySem.Expr} {l : Addr} {v1 v2 v3 v4 v5 v6 : Value} {n : Nat} {u : Tok} {Q : Value → Shared → Prop}
    (N : News h₀ L s.heap news) (hm : (l, W.listOf #[v1, v2, v3, v4, v5, v6] n) ∈ news) (h : Q v1 s)
    (hs : subscripted slice false (.ref l) (.int 0 u) = operate [.ref l, .int 0 u] (getItem (.ref l) (.int 0 u)) := by with_unfolding_all rfl) :
    wpAny (model prog w) A (subscriptTail value slice (.ref l) (.int 0 u)) Q E s :=
  have hl := isList_of N hm
  tail_any hl.typeIs slot_list_getitem.lookup (wpAny_getItem_list hl (by decide) (by decide) (by rfl) h) hs
theorem three {y mo d hh mi ss : Int} (_ : Flds y mo d hh mi ss) : ((1970 ≤ y ∧ (1 ≤ mo ∧ mo ≤ 12) ∧ (1 ≤ d ∧ d ≤ 31) ∧ (0 ≤ hh ∧ hh ≤ 24) ∧ (0 ≤ mi ∧ mi ≤ 59) ∧ 0 ≤ ss ∧ ss ≤ 61) ∧ y ≤ 9999) ∨ ((1970 ≤ y ∧ (1 ≤ mo ∧ mo ≤ 12) ∧ (1 ≤ d ∧ d ≤ 31) ∧ (0 ≤ hh ∧ hh ≤ 24) ∧ (0 ≤ mi ∧ mi ≤ 59) ∧ 0 ≤ ss ∧ ss ≤ 61) ∧ 9999 < y) ∨ ¬ (1970 ≤ y ∧ (1 ≤ mo ∧ mo ≤ 12) ∧ (1 ≤ d ∧ d ≤ 31) ∧ (0 ≤ hh ∧ hh ≤ 24) ∧ (0 ≤ mi ∧ mi ≤ 59) ∧ 0 ≤ ss ∧ ss ≤ 61) := by
  by_cases h : (1970 ≤ y ∧ (1 ≤ mo ∧ mo ≤ 12) ∧ (1 ≤ d ∧ d ≤ 31) ∧ (0 ≤ hh ∧ hh ≤ 24) ∧ (0 ≤ mi ∧ mi ≤ 59) ∧ 0 ≤ ss ∧ ss ≤ 61)
  · by_cases h2 : y ≤ 9999
    · exact .inl ⟨h, h2⟩
    · exact .inr (.inl ⟨h, by omega⟩)
  · exact .inr (.inr h)
theorem mod_of (o d hh mi ss : Int) : ((((o - 719163 + d - 1) * 24 + hh) * 60 + mi) * 60 + ss).fmod 86400 = (3600 * hh + 60 * mi + ss).fmod 86400 := by
  simp only [fmod_mod _ 86400 (by decide)]
  omega
theorem end_bool {h₀ h' : Heap} {L : Addr} {m : Str → Option Value} {news : List (Addr × Obj)} {s : Shared} {Q : Value → Shared → Prop} {tk' : Nat} {b : Bool}
    (hret : ∀ h' tk', Fr h₀ L h' m → News h₀ L h' news → Q (.bool true) { s with heap := h', toks := tk' }) (F : Fr h₀ L h' m) (N : News h₀ L h' news) (e : b = true) : Q (.bool b) { s with heap := h', toks := tk' } := by
  subst e
  exact hret h' tk' F N
theorem not_dec {p : Prop} [Decidable p] (h : ¬ p) : (!decide p) = true := by
  rw [decide_eq_false h]; rfl
end Mine
end

section
open PySem PySem.W PyProof.Rows PySem.Calls
set_option maxHeartbeats 8000000
namespace Mine
section
variable {prog : Program} {w : World} {A : Around} {E : Value → Shared → Prop} {s : Shared} {env : Env} {h₀ : Heap} {x : Str} {body : List Stmt} {Q : Flow → Shared → Prop}
/-- a turn that goes on and keeps the ledger -/
def TurnOn (h₀ : Heap) (L : Addr) (led : List (Addr × Obj)) (s : Shared) (f : Flow) (s₂ : Shared) : Prop :=
  f = .next ∧ ∃ h' tk' m', s₂ = { s with heap := h', toks := tk' } ∧ Fr h₀ L h' m' ∧ News h₀ L h' led
theorem TurnOn.mk {L : Addr} {led : List (Addr × Obj)} {h' : Heap} {tk' : Nat} {m' : Str → Option Value} (F : Fr h₀ L h' m') (N : News h₀ L h' led) : TurnOn h₀ L led s .next { s with heap := h', toks := tk' } := ⟨rfl, h', tk', m', rfl, F, N⟩
theorem law_loop {l : Addr} {vs : List Value} {ns : List Int} {nn : Nat} {m₀ : Str → Option Value} {news : List (Addr × Obj)}
    (hh : A.handled = none) (hl : (l, W.listOf vs.toArray nn) ∈ news) (hi : IntsAre vs ns) (F : Fr h₀ env.locals s.heap m₀) (N : News h₀ env.locals s.heap news)
    (turn : ∀ (n : Int) (t : Tok) (m₁ : Str → Option Value) (led : List (Addr × Obj)) (h : Heap) (tk : Nat), Fr h₀ env.locals h (fun y => if y = x then some (.int n t) else m₁ y) → News h₀ env.locals h led → wpAny (model prog w) A (execs body env) (TurnOn h₀ env.locals led { s with heap := h, toks := tk }) E { s with heap := h, toks := tk })
    (done : ∀ m₁ h tk, Fr h₀ env.locals h m₁ → News h₀ env.locals h news → Q .next { s with heap := h, toks := tk }) :
    wpAny (model prog w) A (pyIter (.ref l)) (fun it s₂ => LoopAtV prog w A h₀ env x body Q E it s₂) E s := by
  refine iter_invNL (fun _ _ nx => nx = news) hh hl hi F N rfl ?_ ?_
  · rintro i n t m₁ news₁ h tk own hn _ hoff hl₁ rfl F₁ N₁
    refine wpAny_mono (turn n t m₁ _ h tk F₁ N₁) (fun f s₂ p => ?_) fun _ _ e => e
    obtain ⟨rfl, h', tk', m', rfl, F', N'⟩ := p
    exact ⟨h', tk', m', _, news₁, rfl, F', N', fun p hp => List.mem_append_left _ hp, fun p hp => List.mem_append_right _ hp, rfl, hl₁, rfl⟩
  · rintro m₁ news₁ h tk hl₁ rfl F₁ N₁
    exact done m₁ h tk F₁ N₁
end
end Mine
end
section
open PySem PySem.W PyProof.Rows
local macro_rules | `(tactic| walk_at "execs cons") => `(tactic| k_extra "execs cons")
local macro_rules | `(tactic| walk_at "execs nil") => `(tactic| k_extra "execs nil")
local macro_rules | `(tactic| walk_at "compareOp In int ref") => `(tactic| k_extra "compareOp In int ref")
local macro_rules | `(tactic| walk_at "subscriptTail Name Slice ref ref") => `(tactic| k_extra "subscriptTail Name Slice ref ref")
local macro_rules | `(tactic| walk_at "call type:datetime.date") => `(tactic| k_extra "call type:datetime.date")
local macro_rules | `(tactic| walk_at "getMethod ref") => `(tactic| k_extra "getMethod ref")
local macro_rules | `(tactic| walk_at "call builtin:datetime.date.toordinal") => `(tactic| k_extra "call builtin:datetime.date.toordinal")
local macro_rules | `(tactic| walk_at "call builtin:datetime.date.weekday") => `(tactic| k_extra "call builtin:datetime.date.weekday")
local macro_rules | `(tactic| walk_at "getMethod type:datetime.datetime") => `(tactic| k_extra "getMethod type:datetime.datetime")
local macro_rules | `(tactic| walk_at "callWith ref") => `(tactic| k_extra "callWith ref")
local macro_rules | `(tactic| walk_at "And") => `(tactic| k_extra "And")
local macro_rules | `(tactic| walk_at "getAttr type:datetime.timezone") => `(tactic| k_extra "getAttr type:datetime.timezone")
local macro_rules | `(tactic| walk_at "call ref") => `(tactic| k_extra "call ref")
local macro_rules | `(tactic| walk_at "getAttr ref") => `(tactic| k_extra "getAttr ref")
local macro_rules | `(tactic| walk_at "binaryOp Mod str ref") => `(tactic| k_extra "binaryOp Mod str ref")
local macro_rules | `(tactic| walk_at "binaryOp Add str str") => `(tactic| k_extra "binaryOp Add str str")
local macro_rules | `(tactic| walk_at "exec While Compare") => `(tactic| k_extra "exec While Compare")
local macro_rules | `(tactic| walk_at "WhlIf") => `(tactic| k_extra "WhlIf")
local macro_rules | `(tactic| walk_at "binaryOp Add ref ref") => `(tactic| k_extra "binaryOp Add ref ref")
local macro_rules | `(tactic| walk_at "call type:tuple") => `(tactic| k_extra "call type:tuple")
local macro_rules | `(tactic| walk_at "compareOp Eq ref ref") => `(tactic| k_extra "compareOp Eq ref ref")
local macro_rules | `(tactic| walk_at "subscriptTail Name Constant ref int") => `(tactic| k_extra "subscriptTail Name Constant ref int")
local macro_rules | `(tactic| walk_at "exec For Name BinOp") => `(tactic| k_extra "exec For Name BinOp")
local macro_rules | `(tactic| walk_at "pyIter ref") => `(tactic| k_extra "pyIter ref")
local macro_rules | `(tactic| walk_at "TurnOn") => `(tactic| k_extra "TurnOn")
open PySem PySem.W PyProof.Rows PySem.Calls PySem.Builtin._datetime
set_option maxHeartbeats 8000000
namespace Mine
set_option rowWalk.seconds 0

section
variable {w : World} {mean : ExcName → Option Value} {mg mb : Str → Option Value} {e1 e2 : Env} {cn : Str} {cs : Scope} {a : Addr} {ccd : Value} {base h₀ : Heap} {L : Addr} {m : Str → Option Value} {s : Shared} {news : List (Addr × Obj)} {Q E : Value → Shared → Prop}
theorem two_call {n : Int} {t : Tok} (B : Below ((callerA.deeper e1).deeper e2) base [e2, e1] h₀) (F : Fr h₀ L s.heap m) (X : (K3 w.params).In h₀) (N : News h₀ L s.heap (news)) (T : Top hd.view_39 LO mean mg mb h₀) (hk : cs.kind = .function) (hn : 0 ≤ n ∧ n < 100)
  (hret : (two n).length ≤ 4 → ∀ t' h' tk', Fr h₀ L h' m → News h₀ L h' (news) → Q (.str (two n) t') {s with heap := h', toks := tk'}) : wpAny (model PySem.Challenge.rw_in0097_01.row.prog w) (((callerA.deeper e1).deeper e2).deeper (envOf cn cs L a ccd)) (call (.ref 112) [.int n t]) Q E s := by
  w_top off
  k_with_none
  k_with "execs cons" => ((with_reducible refine wpAny_execs_cons ?_); (try (with_reducible refine gen_tk ?_; intro tk9)); try dsimp only)
  k_with "execs nil" => ((with_reducible refine wpAny_execs_nil ?_); (try dsimp only))
  revert X; k_fill; intro X
  refine wpAny_call ?_
  k_dflt (refine' code_def ?k1 ?k2 ?k3 ?k4 ?k5 ?kA ?kF ?kK ?k6 ?k7 ?k8 ?k9 ?kB ?_ ?c2 ?c3 ?c4 ?c5; (case kA => exact rfl); (case kF => exact rfl); (case kK => assumption); (case k1 => k_asm); (case k2 => k_asm); (case k3 => k_asm); (case k4 => k_asm); (case k5 => k_asm); (case k6 => k_is); (case k7 => k_is); (case k8 => ktr_room); (case k9 => first | exact BindsTo.of_eq rfl | exact binds_K (by k_in) rfl (by k_is) rfl rfl rfl); (case c5 => decide); (case kB => exact locs rfl); (case c2 => exact rfl); (case c3 => exact rfl); (case c4 => exact rfl); k_whole; intro g' L' h' FG' F' N' B' X' T'; (try dsimp only); (try k_lift B'); (try k_fold))
  k_steps
  all_goals first
    | exact end_int hret (by assumption) (by first | assumption | exact tl (by assumption) | exact tl (tl (by assumption))) (by rfl)
    | exact end_str (hret (two_len n hn.1 hn.2)) (by assumption) (by first | assumption | exact tl (by assumption) | exact tl (tl (by assumption))) (by rfl)
end
end Mine

open PySem PySem.W PyProof.Rows PySem.Calls PySem.Builtin._datetime
set_option maxHeartbeats 8000000
namespace Mine
set_option rowWalk.seconds 0

section
variable {w : World} {mean : ExcName → Option Value} {mg mb : Str → Option Value} {e1 e2 : Env} {cn : Str} {cs : Scope} {a : Addr} {ccd : Value} {base h₀ : Heap} {L : Addr} {m : Str → Option Value} {s : Shared} {news : List (Addr × Obj)} {Q E : Value → Shared → Prop}
theorem len_call {y mo : Int} {t1 t2 : Tok} (B : Below ((callerA.deeper e1).deeper e2) base [e2, e1] h₀) (F : Fr h₀ L s.heap m) (X : (K3 w.params).In h₀) (N : News h₀ L s.heap (news)) (T : Top hd.view_39 LO mean mg mb h₀) (hk : cs.kind = .function) (hm : 1 ≤ mo ∧ mo ≤ 12)
  (hret : 28 ≤ daysInMonth y mo ∧ daysInMonth y mo ≤ 31 → ∀ t' h' tk', Fr h₀ L h' m → News h₀ L h' (news) → Q (.int (daysInMonth y mo) t') {s with heap := h', toks := tk'}) : wpAny (model PySem.Challenge.rw_in0097_01.row.prog w) (((callerA.deeper e1).deeper e2).deeper (envOf cn cs L a ccd)) (call (.ref 91) [.int y t1, .int mo t2]) Q E s := by
  w_top off
  k_with_none
  k_with "execs cons" => ((with_reducible refine wpAny_execs_cons ?_); (try (with_reducible refine gen_tk ?_; intro tk9)); try dsimp only)
  k_with "execs nil" => ((with_reducible refine wpAny_execs_nil ?_); (try dsimp only))
  revert X; k_fill; intro X
  refine wpAny_call ?_
  k_dflt (refine' code_def ?k1 ?k2 ?k3 ?k4 ?k5 ?kA ?kF ?kK ?k6 ?k7 ?k8 ?k9 ?kB ?_ ?c2 ?c3 ?c4 ?c5; (case kA => exact rfl); (case kF => exact rfl); (case kK => assumption); (case k1 => k_asm); (case k2 => k_asm); (case k3 => k_asm); (case k4 => k_asm); (case k5 => k_asm); (case k6 => k_is); (case k7 => k_is); (case k8 => ktr_room); (case k9 => first | exact BindsTo.of_eq rfl | exact binds_K (by k_in) rfl (by k_is) rfl rfl rfl); (case c5 => decide); (case kB => exact locs rfl); (case c2 => exact rfl); (case c3 => exact rfl); (case c4 => exact rfl); k_whole; intro g' L' h' FG' F' N' B' X' T'; (try dsimp only); (try k_lift B'); (try k_fold))
  k_steps
  all_goals first
    | exact end_int (hret (dim_pos y mo hm.1 hm.2)) (by assumption) (by first | assumption | exact tl (by assumption) | exact tl (tl (by assumption))) (by first | exact len29 (by assumption) (leap400 (by assumption)) | exact len29 (by assumption) (leap4 (by assumption) (by assumption)) | exact len28 (by assumption) (leapN (by assumption) (by assumption)) | exact len28 (by assumption) (leapN2 (by assumption) (by assumption)) | exact len28 (by assumption) (leapN3 (by assumption) (by assumption)) | exact len30a hm.1 hm.2 (by assumption) | exact len31a hm.1 hm.2 (by assumption) (by assumption))
    | exact end_str hret (by assumption) (by first | assumption | exact tl (by assumption) | exact tl (tl (by assumption))) (by first | exact len29 (by assumption) (leap400 (by assumption)) | exact len29 (by assumption) (leap4 (by assumption) (by assumption)) | exact len28 (by assumption) (leapN (by assumption) (by assumption)) | exact len28 (by assumption) (leapN2 (by assumption) (by assumption)) | exact len28 (by assumption) (leapN3 (by assumption) (by assumption)) | exact len30a hm.1 hm.2 (by assumption) | exact len31a hm.1 hm.2 (by assumption) (by assumption))
end
end Mine

open PySem PySem.W PyProof.Rows PySem.Calls PySem.Builtin._datetime
set_option maxHeartbeats 8000000
namespace Mine
set_option rowWalk.seconds 0

section
variable {w : World} {mean : ExcName → Option Value} {mg mb : Str → Option Value} {e1 e2 : Env} {cn : Str} {cs : Scope} {a : Addr} {ccd : Value} {base h₀ : Heap} {L : Addr} {m : Str → Option Value} {s : Shared} {news : List (Addr × Obj)} {Q E : Value → Shared → Prop}
theorem week_call {y mo d : Int} {t1 t2 t3 : Tok} (B : Below ((callerA.deeper e1).deeper e2) base [e2, e1] h₀) (F : Fr h₀ L s.heap m) (X : (K3 w.params).In h₀) (N : News h₀ L s.heap (news)) (T : Top hd.view_39 LO mean mg mb h₀) (hk : cs.kind = .function) (hy : 0 ≤ y ∧ y < 10000) (hm : 1 ≤ mo ∧ mo ≤ 12) (hd0 : 1 ≤ d ∧ d ≤ 31)
  (hret : (weekT y mo d).length ≤ 10 → ∀ t' h' tk', Fr h₀ L h' m → News h₀ L h' (news) → Q (.str (weekT y mo d) t') {s with heap := h', toks := tk'}) : wpAny (model PySem.Challenge.rw_in0097_01.row.prog w) (((callerA.deeper e1).deeper e2).deeper (envOf cn cs L a ccd)) (call (.ref 105) [.int y t1, .int mo t2, .int d t3]) Q E s := by
  w_top off
  k_with_none
  k_with "execs cons" => ((with_reducible refine wpAny_execs_cons ?_); (try (with_reducible refine gen_tk ?_; intro tk9)); try dsimp only)
  k_with "execs nil" => ((with_reducible refine wpAny_execs_nil ?_); (try dsimp only))
  revert X; k_fill; intro X
  refine wpAny_call ?_
  k_dflt (refine' code_def ?k1 ?k2 ?k3 ?k4 ?k5 ?kA ?kF ?kK ?k6 ?k7 ?k8 ?k9 ?kB ?_ ?c2 ?c3 ?c4 ?c5; (case kA => exact rfl); (case kF => exact rfl); (case kK => assumption); (case k1 => k_asm); (case k2 => k_asm); (case k3 => k_asm); (case k4 => k_asm); (case k5 => k_asm); (case k6 => k_is); (case k7 => k_is); (case k8 => ktr_room); (case k9 => first | exact BindsTo.of_eq rfl | exact binds_K (by k_in) rfl (by k_is) rfl rfl rfl); (case c5 => decide); (case kB => exact locs rfl); (case c2 => exact rfl); (case c3 => exact rfl); (case c4 => exact rfl); k_whole; intro g' L' h' FG' F' N' B' X' T'; (try dsimp only); (try k_lift B'); (try k_fold))
  k_with "table" => skip
  k_steps
  all_goals first
    | exact end_int hret (by assumption) (by first | assumption | exact tl (by assumption) | exact tl (tl (by assumption))) (by first | exact week_late _ _ _ (by omega) (by omega) | exact week_soon _ _ _ (by omega) (by omega))
    | exact end_str (hret (week_len y mo d)) (by assumption) (by first | assumption | exact tl (by assumption) | exact tl (tl (by assumption))) (by first | exact week_late _ _ _ (by omega) (by omega) | exact week_soon _ _ _ (by omega) (by omega))
end
end Mine

open PySem PySem.W PyProof.Rows PySem.Calls PySem.Builtin._datetime
set_option maxHeartbeats 8000000
namespace Mine
set_option rowWalk.seconds 0

section
variable {w : World} {mean : ExcName → Option Value} {mg mb : Str → Option Value} {e1 e2 : Env} {cn : Str} {cs : Scope} {a : Addr} {ccd : Value} {base h₀ : Heap} {L : Addr} {m : Str → Option Value} {s : Shared} {news : List (Addr × Obj)} {Q E : Value → Shared → Prop}
theorem tgm_call {q : Addr} {y mo d hh mi ss : Int} {t1 t2 t3 t4 t5 t6 : Tok} {rest : List Value} (B : Below (callerA.deeper e1) base [e1] h₀) (F : Fr h₀ L s.heap m) (X : (K3 w.params).In h₀) (N : News h₀ L s.heap (news)) (T : Top hd.view_39 LO mean mg mb h₀) (hk : cs.kind = .function) (hq : (q, tupObj (.int y t1 :: .int mo t2 :: .int d t3 :: .int hh t4 :: .int mi t5 :: .int ss t6 :: rest)) ∈ news) (hr : rest.length ≤ 100) (hy : 1900 ≤ y ∧ y < 20000)
  (hnone : ¬ (1970 ≤ y ∧ (1 ≤ mo ∧ mo ≤ 12) ∧ (1 ≤ d ∧ d ≤ 31) ∧ (0 ≤ hh ∧ hh ≤ 24) ∧ (0 ≤ mi ∧ mi ≤ 59) ∧ 0 ≤ ss ∧ ss ≤ 61) → ∀ h' tk', Fr h₀ L h' m → News h₀ L h' news → Q .none {s with heap := h', toks := tk'})
  (hok : (1970 ≤ y ∧ (1 ≤ mo ∧ mo ≤ 12) ∧ (1 ≤ d ∧ d ≤ 31) ∧ (0 ≤ hh ∧ hh ≤ 24) ∧ (0 ≤ mi ∧ mi ≤ 59) ∧ 0 ≤ ss ∧ ss ≤ 61) → y ≤ 9999 → ∀ t' h' tk', Fr h₀ L h' m → News h₀ L h' news → Q (.int ((((toOrdinal y mo 1 - 719163 + d - 1) * 24 + hh) * 60 + mi) * 60 + ss) t') {s with heap := h', toks := tk'})
  (hex : (1970 ≤ y ∧ (1 ≤ mo ∧ mo ≤ 12) ∧ (1 ≤ d ∧ d ≤ 31) ∧ (0 ≤ hh ∧ hh ≤ 24) ∧ (0 ≤ mi ∧ mi ≤ 59) ∧ 0 ≤ ss ∧ ss ≤ 61) → 9999 < y → ∀ G e h' tk', Fr h₀ L G m → RaisedSN base G (envOf cn cs L a ccd :: [e1]) e (.type "ValueError") news h' → G.UpToSlots h' → E (.ref e) {s with heap := h', toks := tk'}) : wpAny (model PySem.Challenge.rw_in0097_01.row.prog w) ((callerA.deeper e1).deeper (envOf cn cs L a ccd)) (call (.ref 59) [.ref q]) Q E s := by
  have N := dup hq N
  w_top off
  k_with_none
  k_with "execs cons" => ((with_reducible refine wpAny_execs_cons ?_); (try (with_reducible refine gen_tk ?_; intro tk9)); try dsimp only)
  k_with "execs nil" => ((with_reducible refine wpAny_execs_nil ?_); (try dsimp only))
  k_with "compareOp In int ref" => (k_here; (with_reducible show wpAny _ _ (compareOp CmpOp.In (Value.int _ _) (Value.ref _)) _ _ _); k_dflt (refine' Mine.in_range ?hr ?_; (case hr => with_reducible assumption); k_whole))
  k_with "subscriptTail Name Slice ref ref" => (k_here; (with_reducible show wpAny _ _ (subscriptTail _ _ (Value.ref _) (Value.ref _)) _ _ _); k_dflt (refine' Mine.slice6L ?F ?N ?m ?r ?_ ?s ?g; (case F => k_asm); (case N => k_asm); (case m => k_mem); (case r => first | assumption | decide); (case s => with_unfolding_all rfl); (case g => (intro _; with_unfolding_all rfl)); k_whole); intro T' h' F' N')
  k_with "call type:datetime.date" => (k_here; (with_reducible show wpAny _ _ (call (Value.type "datetime.date") [Value.int _ _, Value.int _ _, Value.int 1 _]) _ _ _); k_dflt (refine' Mine.date_call ?F ?N ?hh ?h1 ?h2 ?h3 ?h4 ?ok ?no; (case F => k_asm); (case N => k_asm); (case hh => exact rfl); (case h1 => omega); (case h2 => omega); (case h3 => omega); (case h4 => omega); (case' ok => (intro hy9 q' h' F' N' l1; (try k_lt l1))); (case' no => intro hy9 h' tk' e' hx')))
  k_with "getMethod ref" => (k_here; (with_reducible show wpAny _ _ (getMethod (Value.ref _) (PySem.Str.ofString "toordinal") _) _ _ _); k_dflt (refine' Mine.getm Mine.toord_meth ?x ?c ?d ?_; (case x => exact News.get (by k_asm) (by k_mem)); (case c => exact rfl); (case d => exact rfl); k_whole))
  k_with "getMethod ref" => (k_here; (with_reducible show wpAny _ _ (getMethod (Value.ref _) (PySem.Str.ofString "weekday") _) _ _ _); k_dflt (refine' Mine.getm Mine.weekday_meth ?x ?c ?d ?_; (case x => exact News.get (by k_asm) (by k_mem)); (case c => exact rfl); (case d => exact rfl); k_whole))
  k_with "call builtin:datetime.date.toordinal" => (k_here; k_dflt (refine' Mine.toord_call ?x ?c ?d ?_; (case x => exact News.get (by k_asm) (by k_mem)); (case c => exact rfl); (case d => exact rfl); k_whole))
  k_with "call builtin:datetime.date.weekday" => (k_here; k_dflt (refine' Mine.weekday_callK ?x ?c ?d ?_; (case x => exact News.get (by k_asm) (by k_mem)); (case c => exact rfl); (case d => exact rfl); k_whole); intro wk wk0 wk1 wk2)
  k_with "getMethod type:datetime.datetime" => (k_here; k_dflt (refine' Mine.getm_ft ?F ?N ?X ?e ?_; (case F => k_asm); (case N => k_asm); (case X => k_asm); (case e => k_is); k_whole); intro x' h' F' N' l1; (try k_lt l1))
  k_with "callWith ref" => (k_here; k_dflt (refine' Mine.callWith_ft ?N ?m ?a ?_; (case N => k_asm); (case m => k_mem); (case a => exact rfl); k_whole))
  k_with "And" => ((with_reducible show Mine.StandsAt _ _ ∧ _); k_dflt (refine ⟨Mine.at_of (by k_asm) (by k_mem), ?_⟩); (try dsimp only [List.nil_append, List.cons_append]))
  k_with "getAttr type:datetime.timezone" => (k_here; k_dflt (refine' Mine.utc_attr (z := 39) ?X ?e ?_; (case X => k_in); (case e => k_is); k_whole))
  k_with "call ref" => (k_here; (with_reducible show wpAny _ _ (call (Value.ref _) [Value.int _ _] (List.zip _ [Value.ref 39])) _ _ _); k_dflt (show wpAny _ _ (call (Value.ref _) [Value.int _ _] [(PySem.Str.ofString "tz", Value.ref 39)]) _ _ _); k_dflt (refine' Mine.ft_call Mine.cal_ok ?F ?N ?X ?u ?k9 ?k8 ?hh ?V ?n ?ok ?no; (case F => k_asm); (case N => k_asm); (case X => k_asm); (case u => k_mem); (case k9 => k_is); (case k8 => k_is); (case hh => exact rfl); (case V => assumption); (case n => assumption); (case' ok => (intro hy9 q' h' tk' F' N' l1; (try k_lt l1))); (case' no => intro hy9 h' tk' e' hx')))
  k_with "getAttr ref" => (k_here; k_dflt (first | refine' Mine.int_attr Mine.at_year ?x ?c ?d ?k ?_ | refine' Mine.int_attr Mine.at_month ?x ?c ?d ?k ?_ | refine' Mine.int_attr Mine.at_day ?x ?c ?d ?k ?_ | refine' Mine.int_attr Mine.at_hour ?x ?c ?d ?k ?_ | refine' Mine.int_attr Mine.at_minute ?x ?c ?d ?k ?_ | refine' Mine.int_attr Mine.at_second ?x ?c ?d ?k ?_); k_dflt ((case x => exact News.get (by k_asm) (by k_mem)); (case c => exact rfl); (case d => exact rfl); (case k => exact rfl); k_whole))
  k_with "binaryOp Mod str ref" => (k_here; (with_reducible show wpAny _ _ (binaryOp Operator.Mod (Value.str (PySem.Str.ofString "%04d-%02d-%02d %02d:%02d:%02dZ") _) (Value.ref _)) _ _ _); k_dflt (refine' Mine.iso_modV ?N ?b ?V ?h0 ?h9 ?_; (case N => k_asm); (case b => k_mem); (case V => assumption); (case h0 => assumption); (case h9 => assumption)); intro _ _)
  k_with "binaryOp Mod str ref" => (k_here; (with_reducible show wpAny _ _ (binaryOp Operator.Mod (Value.str (PySem.Str.ofString "%s, %02d-%s-%04d %02d:%02d:%02d GMT") _) (Value.ref _)) _ _ _); k_dflt (refine' Mine.net_modV ?N ?b ?V ?h0 ?h9 ?x ?z ?_; (case N => k_asm); (case b => k_mem); (case V => assumption); (case h0 => assumption); (case h9 => assumption); (case x => exact Mine.getD_len (by decide) _); (case z => exact Mine.getD_len (by decide) _)); intro _ _)
  revert X; k_fill; intro X
  refine wpAny_call ?_
  k_dflt (refine' code_def ?k1 ?k2 ?k3 ?k4 ?k5 ?kA ?kF ?kK ?k6 ?k7 ?k8 ?k9 ?kB ?_ ?c2 ?c3 ?c4 ?c5; (case kA => exact rfl); (case kF => exact rfl); (case kK => assumption); (case k1 => k_asm); (case k2 => k_asm); (case k3 => k_asm); (case k4 => k_asm); (case k5 => k_asm); (case k6 => k_is); (case k7 => k_is); (case k8 => ktr_room); (case k9 => first | exact BindsTo.of_eq rfl | exact binds_K (by k_in) rfl (by k_is) rfl rfl rfl); (case c5 => decide); (case kB => exact locs rfl); (case c2 => exact rfl); (case c3 => exact rfl); (case c4 => exact rfl); k_whole; intro g' L' h' FG' F' N' B' X' T'; (try dsimp only); (try k_lift B'); (try k_fold))
  have D0 : KtsDicts [] h₀ := ktsDicts_nil
  k_steps
  all_goals first
    | exact hnone (by omega) _ _ (by assumption) (by first | assumption | exact tl (by assumption) | exact tl (tl (by assumption)) | exact tl (tl (tl (by assumption))) | exact tl (tl (tl (tl (by assumption)))))
    | exact hok (by omega) (by omega) _ _ _ (by assumption) (by first | assumption | exact tl (by assumption) | exact tl (tl (by assumption)) | exact tl (tl (tl (by assumption))) | exact tl (tl (tl (tl (by assumption)))))
    | (refine' hex ?zg ?zy _ _ _ _ ?zf ?zr ?zu; (case zr => first | assumption | exact raised_tl (by assumption) | exact raised_tl (raised_tl (by assumption)) | exact raised_tl (raised_tl (raised_tl (by assumption))) | exact raised_tl (raised_tl (raised_tl (raised_tl (by assumption))))); (case zu => assumption); (case zf => assumption); (case zg => omega); (case zy => omega))
end
end Mine

open PySem PySem.W PyProof.Rows PySem.Calls PySem.Builtin._datetime
set_option maxHeartbeats 8000000
namespace Mine
set_option rowWalk.seconds 0

section
variable {w : World} {mean : ExcName → Option Value} {mg mb : Str → Option Value} {e1 e2 : Env} {cn : Str} {cs : Scope} {a : Addr} {ccd : Value} {base h₀ : Heap} {L : Addr} {m : Str → Option Value} {s : Shared} {news : List (Addr × Obj)} {Q E : Value → Shared → Prop}
theorem iso_call {n y mo dd hh mi ss : Int} {t : Tok} (B : Below ((callerA.deeper e1).deeper e2) base [e2, e1] h₀) (F : Fr h₀ L s.heap m) (X : (K3 w.params).In h₀) (N : News h₀ L s.heap (news)) (T : Top hd.view_39 LO mean mg mb h₀) (hk : cs.kind = .function) (V : Valid y mo dd hh mi ss) (hn : n = momentOf y mo dd hh mi ss) (h0 : 1000 ≤ y)
  (hok : y ≤ 9999 → ∀ t' h' tk', Fr h₀ L h' m → News h₀ L h' news → Q (.str (isoLaw y mo dd hh mi ss) t') {s with heap := h', toks := tk'})
  (hex : 9999 < y → ∀ G e h' tk', Fr h₀ L G m → RaisedSN base G (envOf cn cs L a ccd :: [e2, e1]) e (.type "ValueError") (news) h' → G.UpToSlots h' → E (.ref e) {s with heap := h', toks := tk'}) : wpAny (model PySem.Challenge.rw_in0097_01.row.prog w) (((callerA.deeper e1).deeper e2).deeper (envOf cn cs L a ccd)) (call (.ref 69) [.int n t]) Q E s := by
  w_top off
  k_with_none
  k_with "execs cons" => ((with_reducible refine wpAny_execs_cons ?_); (try (with_reducible refine gen_tk ?_; intro tk9)); try dsimp only)
  k_with "execs nil" => ((with_reducible refine wpAny_execs_nil ?_); (try dsimp only))
  k_with "compareOp In int ref" => (k_here; (with_reducible show wpAny _ _ (compareOp CmpOp.In (Value.int _ _) (Value.ref _)) _ _ _); k_dflt (refine' Mine.in_range ?hr ?_; (case hr => with_reducible assumption); k_whole))
  k_with "subscriptTail Name Slice ref ref" => (k_here; (with_reducible show wpAny _ _ (subscriptTail _ _ (Value.ref _) (Value.ref _)) _ _ _); k_dflt (refine' Mine.slice6L ?F ?N ?m ?r ?_ ?s ?g; (case F => k_asm); (case N => k_asm); (case m => k_mem); (case r => first | assumption | decide); (case s => with_unfolding_all rfl); (case g => (intro _; with_unfolding_all rfl)); k_whole); intro T' h' F' N')
  k_with "call type:datetime.date" => (k_here; (with_reducible show wpAny _ _ (call (Value.type "datetime.date") [Value.int _ _, Value.int _ _, Value.int 1 _]) _ _ _); k_dflt (refine' Mine.date_call ?F ?N ?hh ?h1 ?h2 ?h3 ?h4 ?ok ?no; (case F => k_asm); (case N => k_asm); (case hh => exact rfl); (case h1 => omega); (case h2 => omega); (case h3 => omega); (case h4 => omega); (case' ok => (intro hy9 q' h' F' N' l1; (try k_lt l1))); (case' no => intro hy9 h' tk' e' hx')))
  k_with "getMethod ref" => (k_here; (with_reducible show wpAny _ _ (getMethod (Value.ref _) (PySem.Str.ofString "toordinal") _) _ _ _); k_dflt (refine' Mine.getm Mine.toord_meth ?x ?c ?d ?_; (case x => exact News.get (by k_asm) (by k_mem)); (case c => exact rfl); (case d => exact rfl); k_whole))
  k_with "getMethod ref" => (k_here; (with_reducible show wpAny _ _ (getMethod (Value.ref _) (PySem.Str.ofString "weekday") _) _ _ _); k_dflt (refine' Mine.getm Mine.weekday_meth ?x ?c ?d ?_; (case x => exact News.get (by k_asm) (by k_mem)); (case c => exact rfl); (case d => exact rfl); k_whole))
  k_with "call builtin:datetime.date.toordinal" => (k_here; k_dflt (refine' Mine.toord_call ?x ?c ?d ?_; (case x => exact News.get (by k_asm) (by k_mem)); (case c => exact rfl); (case d => exact rfl); k_whole))
  k_with "call builtin:datetime.date.weekday" => (k_here; k_dflt (refine' Mine.weekday_callK ?x ?c ?d ?_; (case x => exact News.get (by k_asm) (by k_mem)); (case c => exact rfl); (case d => exact rfl); k_whole); intro wk wk0 wk1 wk2)
  k_with "getMethod type:datetime.datetime" => (k_here; k_dflt (refine' Mine.getm_ft ?F ?N ?X ?e ?_; (case F => k_asm); (case N => k_asm); (case X => k_asm); (case e => k_is); k_whole); intro x' h' F' N' l1; (try k_lt l1))
  k_with "callWith ref" => (k_here; k_dflt (refine' Mine.callWith_ft ?N ?m ?a ?_; (case N => k_asm); (case m => k_mem); (case a => exact rfl); k_whole))
  k_with "And" => ((with_reducible show Mine.StandsAt _ _ ∧ _); k_dflt (refine ⟨Mine.at_of (by k_asm) (by k_mem), ?_⟩); (try dsimp only [List.nil_append, List.cons_append]))
  k_with "getAttr type:datetime.timezone" => (k_here; k_dflt (refine' Mine.utc_attr (z := 39) ?X ?e ?_; (case X => k_in); (case e => k_is); k_whole))
  k_with "call ref" => (k_here; (with_reducible show wpAny _ _ (call (Value.ref _) [Value.int _ _] (List.zip _ [Value.ref 39])) _ _ _); k_dflt (show wpAny _ _ (call (Value.ref _) [Value.int _ _] [(PySem.Str.ofString "tz", Value.ref 39)]) _ _ _); k_dflt (refine' Mine.ft_call Mine.cal_ok ?F ?N ?X ?u ?k9 ?k8 ?hh ?V ?n ?ok ?no; (case F => k_asm); (case N => k_asm); (case X => k_asm); (case u => k_mem); (case k9 => k_is); (case k8 => k_is); (case hh => exact rfl); (case V => assumption); (case n => assumption); (case' ok => (intro hy9 q' h' tk' F' N' l1; (try k_lt l1))); (case' no => intro hy9 h' tk' e' hx')))
  k_with "getAttr ref" => (k_here; k_dflt (first | refine' Mine.int_attr Mine.at_year ?x ?c ?d ?k ?_ | refine' Mine.int_attr Mine.at_month ?x ?c ?d ?k ?_ | refine' Mine.int_attr Mine.at_day ?x ?c ?d ?k ?_ | refine' Mine.int_attr Mine.at_hour ?x ?c ?d ?k ?_ | refine' Mine.int_attr Mine.at_minute ?x ?c ?d ?k ?_ | refine' Mine.int_attr Mine.at_second ?x ?c ?d ?k ?_); k_dflt ((case x => exact News.get (by k_asm) (by k_mem)); (case c => exact rfl); (case d => exact rfl); (case k => exact rfl); k_whole))
  k_with "binaryOp Mod str ref" => (k_here; (with_reducible show wpAny _ _ (binaryOp Operator.Mod (Value.str (PySem.Str.ofString "%04d-%02d-%02d %02d:%02d:%02dZ") _) (Value.ref _)) _ _ _); k_dflt (refine' Mine.iso_modV ?N ?b ?V ?h0 ?h9 ?_; (case N => k_asm); (case b => k_mem); (case V => assumption); (case h0 => assumption); (case h9 => assumption)); intro _ _)
  k_with "binaryOp Mod str ref" => (k_here; (with_reducible show wpAny _ _ (binaryOp Operator.Mod (Value.str (PySem.Str.ofString "%s, %02d-%s-%04d %02d:%02d:%02d GMT") _) (Value.ref _)) _ _ _); k_dflt (refine' Mine.net_modV ?N ?b ?V ?h0 ?h9 ?x ?z ?_; (case N => k_asm); (case b => k_mem); (case V => assumption); (case h0 => assumption); (case h9 => assumption); (case x => exact Mine.getD_len (by decide) _); (case z => exact Mine.getD_len (by decide) _)); intro _ _)
  revert X; k_fill; intro X
  refine wpAny_call ?_
  k_dflt (refine' code_def ?k1 ?k2 ?k3 ?k4 ?k5 ?kA ?kF ?kK ?k6 ?k7 ?k8 ?k9 ?kB ?_ ?c2 ?c3 ?c4 ?c5; (case kA => exact rfl); (case kF => exact rfl); (case kK => assumption); (case k1 => k_asm); (case k2 => k_asm); (case k3 => k_asm); (case k4 => k_asm); (case k5 => k_asm); (case k6 => k_is); (case k7 => k_is); (case k8 => ktr_room); (case k9 => first | exact BindsTo.of_eq rfl | exact binds_K (by k_in) rfl (by k_is) rfl rfl rfl); (case c5 => decide); (case kB => exact locs rfl); (case c2 => exact rfl); (case c3 => exact rfl); (case c4 => exact rfl); k_whole; intro g' L' h' FG' F' N' B' X' T'; (try dsimp only); (try k_lift B'); (try k_fold))
  have D0 : KtsDicts [] h₀ := ktsDicts_nil
  k_steps
  all_goals first
    | exact hok (by omega) _ _ _ (by assumption) (by first | assumption | exact tl (by assumption) | exact tl (tl (by assumption)) | exact tl (tl (tl (by assumption))) | exact tl (tl (tl (tl (by assumption)))))
    | (refine' hex ?zy _ _ _ _ ?zf ?zr ?zu; (case zr => first | assumption | exact raised_tl (by assumption) | exact raised_tl (raised_tl (by assumption)) | exact raised_tl (raised_tl (raised_tl (by assumption))) | exact raised_tl (raised_tl (raised_tl (raised_tl (by assumption))))); (case zu => assumption); (case zf => assumption); (case zy => omega))
end
end Mine

open PySem PySem.W PyProof.Rows PySem.Calls PySem.Builtin._datetime
set_option maxHeartbeats 8000000
namespace Mine
set_option rowWalk.seconds 0

section
variable {w : World} {mean : ExcName → Option Value} {mg mb : Str → Option Value} {e1 e2 : Env} {cn : Str} {cs : Scope} {a : Addr} {ccd : Value} {base h₀ : Heap} {L : Addr} {m : Str → Option Value} {s : Shared} {news : List (Addr × Obj)} {Q E : Value → Shared → Prop}
theorem net_call {n y mo dd hh mi ss : Int} {t : Tok} (B : Below ((callerA.deeper e1).deeper e2) base [e2, e1] h₀) (F : Fr h₀ L s.heap m) (X : (K3 w.params).In h₀) (N : News h₀ L s.heap (news)) (T : Top hd.view_39 LO mean mg mb h₀) (hk : cs.kind = .function) (V : Valid y mo dd hh mi ss) (hn : n = momentOf y mo dd hh mi ss) (h0 : 1000 ≤ y)
  (hok : y ≤ 9999 → ∀ t' h' tk', Fr h₀ L h' m → News h₀ L h' news → Q (.str (netLaw (weekT y mo dd) (monT mo) y dd hh mi ss) t') {s with heap := h', toks := tk'})
  (hex : 9999 < y → ∀ G e h' tk', Fr h₀ L G m → RaisedSN base G (envOf cn cs L a ccd :: [e2, e1]) e (.type "ValueError") (news) h' → G.UpToSlots h' → E (.ref e) {s with heap := h', toks := tk'}) : wpAny (model PySem.Challenge.rw_in0097_01.row.prog w) (((callerA.deeper e1).deeper e2).deeper (envOf cn cs L a ccd)) (call (.ref 77) [.int n t]) Q E s := by
  w_top off
  k_with_none
  k_with "execs cons" => ((with_reducible refine wpAny_execs_cons ?_); (try (with_reducible refine gen_tk ?_; intro tk9)); try dsimp only)
  k_with "execs nil" => ((with_reducible refine wpAny_execs_nil ?_); (try dsimp only))
  k_with "compareOp In int ref" => (k_here; (with_reducible show wpAny _ _ (compareOp CmpOp.In (Value.int _ _) (Value.ref _)) _ _ _); k_dflt (refine' Mine.in_range ?hr ?_; (case hr => with_reducible assumption); k_whole))
  k_with "subscriptTail Name Slice ref ref" => (k_here; (with_reducible show wpAny _ _ (subscriptTail _ _ (Value.ref _) (Value.ref _)) _ _ _); k_dflt (refine' Mine.slice6L ?F ?N ?m ?r ?_ ?s ?g; (case F => k_asm); (case N => k_asm); (case m => k_mem); (case r => first | assumption | decide); (case s => with_unfolding_all rfl); (case g => (intro _; with_unfolding_all rfl)); k_whole); intro T' h' F' N')
  k_with "call type:datetime.date" => (k_here; (with_reducible show wpAny _ _ (call (Value.type "datetime.date") [Value.int _ _, Value.int _ _, Value.int 1 _]) _ _ _); k_dflt (refine' Mine.date_call ?F ?N ?hh ?h1 ?h2 ?h3 ?h4 ?ok ?no; (case F => k_asm); (case N => k_asm); (case hh => exact rfl); (case h1 => omega); (case h2 => omega); (case h3 => omega); (case h4 => omega); (case' ok => (intro hy9 q' h' F' N' l1; (try k_lt l1))); (case' no => intro hy9 h' tk' e' hx')))
  k_with "getMethod ref" => (k_here; (with_reducible show wpAny _ _ (getMethod (Value.ref _) (PySem.Str.ofString "toordinal") _) _ _ _); k_dflt (refine' Mine.getm Mine.toord_meth ?x ?c ?d ?_; (case x => exact News.get (by k_asm) (by k_mem)); (case c => exact rfl); (case d => exact rfl); k_whole))
  k_with "getMethod ref" => (k_here; (with_reducible show wpAny _ _ (getMethod (Value.ref _) (PySem.Str.ofString "weekday") _) _ _ _); k_dflt (refine' Mine.getm Mine.weekday_meth ?x ?c ?d ?_; (case x => exact News.get (by k_asm) (by k_mem)); (case c => exact rfl); (case d => exact rfl); k_whole))
  k_with "call builtin:datetime.date.toordinal" => (k_here; k_dflt (refine' Mine.toord_call ?x ?c ?d ?_; (case x => exact News.get (by k_asm) (by k_mem)); (case c => exact rfl); (case d => exact rfl); k_whole))
  k_with "call builtin:datetime.date.weekday" => (k_here; k_dflt (refine' Mine.weekday_callK ?x ?c ?d ?_; (case x => exact News.get (by k_asm) (by k_mem)); (case c => exact rfl); (case d => exact rfl); k_whole); intro wk wk0 wk1 wk2)
  k_with "getMethod type:datetime.datetime" => (k_here; k_dflt (refine' Mine.getm_ft ?F ?N ?X ?e ?_; (case F => k_asm); (case N => k_asm); (case X => k_asm); (case e => k_is); k_whole); intro x' h' F' N' l1; (try k_lt l1))
  k_with "callWith ref" => (k_here; k_dflt (refine' Mine.callWith_ft ?N ?m ?a ?_; (case N => k_asm); (case m => k_mem); (case a => exact rfl); k_whole))
  k_with "And" => ((with_reducible show Mine.StandsAt _ _ ∧ _); k_dflt (refine ⟨Mine.at_of (by k_asm) (by k_mem), ?_⟩); (try dsimp only [List.nil_append, List.cons_append]))
  k_with "getAttr type:datetime.timezone" => (k_here; k_dflt (refine' Mine.utc_attr (z := 39) ?X ?e ?_; (case X => k_in); (case e => k_is); k_whole))
  k_with "call ref" => (k_here; (with_reducible show wpAny _ _ (call (Value.ref _) [Value.int _ _] (List.zip _ [Value.ref 39])) _ _ _); k_dflt (show wpAny _ _ (call (Value.ref _) [Value.int _ _] [(PySem.Str.ofString "tz", Value.ref 39)]) _ _ _); k_dflt (refine' Mine.ft_call Mine.cal_ok ?F ?N ?X ?u ?k9 ?k8 ?hh ?V ?n ?ok ?no; (case F => k_asm); (case N => k_asm); (case X => k_asm); (case u => k_mem); (case k9 => k_is); (case k8 => k_is); (case hh => exact rfl); (case V => assumption); (case n => assumption); (case' ok => (intro hy9 q' h' tk' F' N' l1; (try k_lt l1))); (case' no => intro hy9 h' tk' e' hx')))
  k_with "getAttr ref" => (k_here; k_dflt (first | refine' Mine.int_attr Mine.at_year ?x ?c ?d ?k ?_ | refine' Mine.int_attr Mine.at_month ?x ?c ?d ?k ?_ | refine' Mine.int_attr Mine.at_day ?x ?c ?d ?k ?_ | refine' Mine.int_attr Mine.at_hour ?x ?c ?d ?k ?_ | refine' Mine.int_attr Mine.at_minute ?x ?c ?d ?k ?_ | refine' Mine.int_attr Mine.at_second ?x ?c ?d ?k ?_); k_dflt ((case x => exact News.get (by k_asm) (by k_mem)); (case c => exact rfl); (case d => exact rfl); (case k => exact rfl); k_whole))
  k_with "binaryOp Mod str ref" => (k_here; (with_reducible show wpAny _ _ (binaryOp Operator.Mod (Value.str (PySem.Str.ofString "%04d-%02d-%02d %02d:%02d:%02dZ") _) (Value.ref _)) _ _ _); k_dflt (refine' Mine.iso_modV ?N ?b ?V ?h0 ?h9 ?_; (case N => k_asm); (case b => k_mem); (case V => assumption); (case h0 => assumption); (case h9 => assumption)); intro _ _)
  k_with "binaryOp Mod str ref" => (k_here; (with_reducible show wpAny _ _ (binaryOp Operator.Mod (Value.str (PySem.Str.ofString "%s, %02d-%s-%04d %02d:%02d:%02d GMT") _) (Value.ref _)) _ _ _); k_dflt (refine' Mine.net_modV ?N ?b ?V ?h0 ?h9 ?x ?z ?_; (case N => k_asm); (case b => k_mem); (case V => assumption); (case h0 => assumption); (case h9 => assumption); (case x => exact Mine.getD_len (by decide) _); (case z => exact Mine.getD_len (by decide) _)); intro _ _)
  revert X; k_fill; intro X
  refine wpAny_call ?_
  k_dflt (refine' code_def ?k1 ?k2 ?k3 ?k4 ?k5 ?kA ?kF ?kK ?k6 ?k7 ?k8 ?k9 ?kB ?_ ?c2 ?c3 ?c4 ?c5; (case kA => exact rfl); (case kF => exact rfl); (case kK => assumption); (case k1 => k_asm); (case k2 => k_asm); (case k3 => k_asm); (case k4 => k_asm); (case k5 => k_asm); (case k6 => k_is); (case k7 => k_is); (case k8 => ktr_room); (case k9 => first | exact BindsTo.of_eq rfl | exact binds_K (by k_in) rfl (by k_is) rfl rfl rfl); (case c5 => decide); (case kB => exact locs rfl); (case c2 => exact rfl); (case c3 => exact rfl); (case c4 => exact rfl); k_whole; intro g' L' h' FG' F' N' B' X' T'; (try dsimp only); (try k_lift B'); (try k_fold))
  have D0 : KtsDicts [] h₀ := ktsDicts_nil
  have vm1 := V.m1; have vm2 := V.m2
  k_with "table" => skip
  k_steps
  all_goals first
    | exact end_str (fun t1 h1 tk1 F1 N1 => hok (by omega) t1 h1 tk1 F1 N1) (by assumption) (by first | assumption | exact tl (by assumption) | exact tl (tl (by assumption)) | exact tl (tl (tl (by assumption))) | exact tl (tl (tl (tl (by assumption))))) (net_end (by assumption))
    | exact hok (by omega) _ _ _ (by assumption) (by first | assumption | exact tl (by assumption) | exact tl (tl (by assumption)) | exact tl (tl (tl (by assumption))) | exact tl (tl (tl (tl (by assumption)))))
    | (refine' hex ?zy _ _ _ _ ?zf ?zr ?zu; (case zr => first | assumption | exact raised_tl (by assumption) | exact raised_tl (raised_tl (by assumption)) | exact raised_tl (raised_tl (raised_tl (by assumption))) | exact raised_tl (raised_tl (raised_tl (raised_tl (by assumption))))); (case zu => assumption); (case zf => assumption); (case zy => omega))
end
end Mine

open PySem PySem.W PyProof.Rows PySem.Calls PySem.Builtin._datetime
set_option maxHeartbeats 8000000
namespace Mine
set_option rowWalk.seconds 0

section
variable {w : World} {mean : ExcName → Option Value} {mg mb : Str → Option Value} {e1 e2 : Env} {cn : Str} {cs : Scope} {a : Addr} {ccd : Value} {base h₀ : Heap} {L : Addr} {m : Str → Option Value} {s : Shared} {news : List (Addr × Obj)} {Q E : Value → Shared → Prop}
theorem texts_call {q : Addr} {y mo d hh mi ss : Int} {t1 t2 t3 t4 t5 t6 : Tok} {nl : Nat} (B : Below (callerA.deeper e1) base [e1] h₀) (F : Fr h₀ L s.heap m) (X : (K3 w.params).In h₀) (N : News h₀ L s.heap (news)) (T : Top hd.view_39 LO mean mg mb h₀) (hk : cs.kind = .function) (hq : (q, W.listOf #[.int y t1, .int mo t2, .int d t3, .int hh t4, .int mi t5, .int ss t6] nl) ∈ news) (hy : 1000 ≤ y ∧ y ≤ 9999) (hm : 1 ≤ mo ∧ mo ≤ 12) (hd : 1 ≤ d ∧ d ≤ 31) (hh1 : 0 ≤ hh ∧ hh ≤ 23) (hi1 : 0 ≤ mi ∧ mi ≤ 59) (hs1 : 0 ≤ ss ∧ ss ≤ 59)
  (hret : ∀ T u1 u2 h' tk' n, Fr h₀ L h' m → News h₀ L h' ((T, W.listOf #[.str (isoLaw y mo d hh mi ss) u1, .str (netLaw (weekT y mo d) (monT mo) y d hh mi ss) u2] n) :: news) → Q (.ref T) {s with heap := h', toks := tk'}) : wpAny (model PySem.Challenge.rw_in0097_01.row.prog w) ((callerA.deeper e1).deeper (envOf cn cs L a ccd)) (call (.ref 119) [.ref q]) Q E s := by
  have N := dup hq N
  w_top off
  k_with_none
  k_with "execs cons" => ((with_reducible refine wpAny_execs_cons ?_); (try (with_reducible refine gen_tk ?_; intro tk9)); try dsimp only)
  k_with "execs nil" => ((with_reducible refine wpAny_execs_nil ?_); (try dsimp only))
  k_with "compareOp In int ref" => (k_here; (with_reducible show wpAny _ _ (compareOp CmpOp.In (Value.int _ _) (Value.ref _)) _ _ _); k_dflt (refine' Mine.in_range ?hr ?_; (case hr => with_reducible assumption); k_whole))
  k_with "subscriptTail Name Slice ref ref" => (k_here; (with_reducible show wpAny _ _ (subscriptTail _ _ (Value.ref _) (Value.ref _)) _ _ _); k_dflt (refine' Mine.slice6L ?F ?N ?m ?r ?_ ?s ?g; (case F => k_asm); (case N => k_asm); (case m => k_mem); (case r => first | assumption | decide); (case s => with_unfolding_all rfl); (case g => (intro _; with_unfolding_all rfl)); k_whole); intro T' h' F' N')
  k_with "call type:datetime.date" => (k_here; (with_reducible show wpAny _ _ (call (Value.type "datetime.date") [Value.int _ _, Value.int _ _, Value.int 1 _]) _ _ _); k_dflt (refine' Mine.date_call ?F ?N ?hh ?h1 ?h2 ?h3 ?h4 ?ok ?no; (case F => k_asm); (case N => k_asm); (case hh => exact rfl); (case h1 => omega); (case h2 => omega); (case h3 => omega); (case h4 => omega); (case' ok => (intro hy9 q' h' F' N' l1; (try k_lt l1))); (case' no => intro hy9 h' tk' e' hx')))
  k_with "getMethod ref" => (k_here; (with_reducible show wpAny _ _ (getMethod (Value.ref _) (PySem.Str.ofString "toordinal") _) _ _ _); k_dflt (refine' Mine.getm Mine.toord_meth ?x ?c ?d ?_; (case x => exact News.get (by k_asm) (by k_mem)); (case c => exact rfl); (case d => exact rfl); k_whole))
  k_with "getMethod ref" => (k_here; (with_reducible show wpAny _ _ (getMethod (Value.ref _) (PySem.Str.ofString "weekday") _) _ _ _); k_dflt (refine' Mine.getm Mine.weekday_meth ?x ?c ?d ?_; (case x => exact News.get (by k_asm) (by k_mem)); (case c => exact rfl); (case d => exact rfl); k_whole))
  k_with "call builtin:datetime.date.toordinal" => (k_here; k_dflt (refine' Mine.toord_call ?x ?c ?d ?_; (case x => exact News.get (by k_asm) (by k_mem)); (case c => exact rfl); (case d => exact rfl); k_whole))
  k_with "call builtin:datetime.date.weekday" => (k_here; k_dflt (refine' Mine.weekday_callK ?x ?c ?d ?_; (case x => exact News.get (by k_asm) (by k_mem)); (case c => exact rfl); (case d => exact rfl); k_whole); intro wk wk0 wk1 wk2)
  k_with "getMethod type:datetime.datetime" => (k_here; k_dflt (refine' Mine.getm_ft ?F ?N ?X ?e ?_; (case F => k_asm); (case N => k_asm); (case X => k_asm); (case e => k_is); k_whole); intro x' h' F' N' l1; (try k_lt l1))
  k_with "callWith ref" => (k_here; k_dflt (refine' Mine.callWith_ft ?N ?m ?a ?_; (case N => k_asm); (case m => k_mem); (case a => exact rfl); k_whole))
  k_with "And" => ((with_reducible show Mine.StandsAt _ _ ∧ _); k_dflt (refine ⟨Mine.at_of (by k_asm) (by k_mem), ?_⟩); (try dsimp only [List.nil_append, List.cons_append]))
  k_with "getAttr type:datetime.timezone" => (k_here; k_dflt (refine' Mine.utc_attr (z := 39) ?X ?e ?_; (case X => k_in); (case e => k_is); k_whole))
  k_with "call ref" => (k_here; (with_reducible show wpAny _ _ (call (Value.ref _) [Value.int _ _] (List.zip _ [Value.ref 39])) _ _ _); k_dflt (show wpAny _ _ (call (Value.ref _) [Value.int _ _] [(PySem.Str.ofString "tz", Value.ref 39)]) _ _ _); k_dflt (refine' Mine.ft_call Mine.cal_ok ?F ?N ?X ?u ?k9 ?k8 ?hh ?V ?n ?ok ?no; (case F => k_asm); (case N => k_asm); (case X => k_asm); (case u => k_mem); (case k9 => k_is); (case k8 => k_is); (case hh => exact rfl); (case V => assumption); (case n => assumption); (case' ok => (intro hy9 q' h' tk' F' N' l1; (try k_lt l1))); (case' no => intro hy9 h' tk' e' hx')))
  k_with "getAttr ref" => (k_here; k_dflt (first | refine' Mine.int_attr Mine.at_year ?x ?c ?d ?k ?_ | refine' Mine.int_attr Mine.at_month ?x ?c ?d ?k ?_ | refine' Mine.int_attr Mine.at_day ?x ?c ?d ?k ?_ | refine' Mine.int_attr Mine.at_hour ?x ?c ?d ?k ?_ | refine' Mine.int_attr Mine.at_minute ?x ?c ?d ?k ?_ | refine' Mine.int_attr Mine.at_second ?x ?c ?d ?k ?_); k_dflt ((case x => exact News.get (by k_asm) (by k_mem)); (case c => exact rfl); (case d => exact rfl); (case k => exact rfl); k_whole))
  k_with "binaryOp Mod str ref" => (k_here; (with_reducible show wpAny _ _ (binaryOp Operator.Mod (Value.str (PySem.Str.ofString "%04d-%02d-%02d %02d:%02d:%02dZ") _) (Value.ref _)) _ _ _); k_dflt (refine' Mine.iso_modV ?N ?b ?V ?h0 ?h9 ?_; (case N => k_asm); (case b => k_mem); (case V => assumption); (case h0 => assumption); (case h9 => assumption)); intro _ _)
  k_with "binaryOp Mod str ref" => (k_here; (with_reducible show wpAny _ _ (binaryOp Operator.Mod (Value.str (PySem.Str.ofString "%s, %02d-%s-%04d %02d:%02d:%02d GMT") _) (Value.ref _)) _ _ _); k_dflt (refine' Mine.net_modV ?N ?b ?V ?h0 ?h9 ?x ?z ?_; (case N => k_asm); (case b => k_mem); (case V => assumption); (case h0 => assumption); (case h9 => assumption); (case x => exact Mine.getD_len (by decide) _); (case z => exact Mine.getD_len (by decide) _)); intro _ _)
  k_with "call ref" => (k_here; (with_reducible show wpAny _ _ (call (Value.ref 112) [Value.int _ _]) _ _ _); k_dflt (refine' Mine.two_call ?zB ?zF ?zX ?zN ?zT ?zk ?zn ?_; (case zB => k_asm); (case zF => k_asm); (case zN => k_asm); (case zX => k_asm); (case zT => k_asm); (case zk => exact rfl); (case zn => ((try simp only [Mine.fmod_mod _ 100 (by decide), Mine.fdiv_div _ 100 (by decide)]); omega)); k_whole); intro zl t' h' tk' F' N')
  k_with "call ref" => (k_here; (with_reducible show wpAny _ _ (call (Value.ref 105) [Value.int _ _, Value.int _ _, Value.int _ _]) _ _ _); k_dflt (refine' Mine.week_call ?zB ?zF ?zX ?zN ?zT ?zk ?zy ?zm ?zd ?_; (case zB => k_asm); (case zF => k_asm); (case zN => k_asm); (case zX => k_asm); (case zT => k_asm); (case zk => exact rfl); (case zy => omega); (case zm => omega); (case zd => omega); k_whole); intro zl t' h' tk' F' N')
  k_with "binaryOp Add str str" => (k_here; (with_reducible show wpAny _ _ (binaryOp Operator.Add (Value.str _ _) (Value.str _ _)) _ _ _); k_dflt (refine' Mine.add_b ?zx ?zy ?zs ?_; (case zx => first | with_reducible assumption | exact Nat.le_refl _); (case zy => first | with_reducible assumption | exact Nat.le_refl _); (case zs => decide)); intro zl t' k')
  revert X; k_fill; intro X
  refine wpAny_call ?_
  k_dflt (refine' code_def ?k1 ?k2 ?k3 ?k4 ?k5 ?kA ?kF ?kK ?k6 ?k7 ?k8 ?k9 ?kB ?_ ?c2 ?c3 ?c4 ?c5; (case kA => exact rfl); (case kF => exact rfl); (case kK => assumption); (case k1 => k_asm); (case k2 => k_asm); (case k3 => k_asm); (case k4 => k_asm); (case k5 => k_asm); (case k6 => k_is); (case k7 => k_is); (case k8 => ktr_room); (case k9 => first | exact BindsTo.of_eq rfl | exact binds_K (by k_in) rfl (by k_is) rfl rfl rfl); (case c5 => decide); (case kB => exact locs rfl); (case c2 => exact rfl); (case c3 => exact rfl); (case c4 => exact rfl); k_whole; intro g' L' h' FG' F' N' B' X' T'; (try dsimp only); (try k_lift B'); (try k_fold))
  k_steps
  exact texts_end hm hret (by assumption) (by assumption)
end
end Mine

open PySem PySem.W PyProof.Rows PySem.Calls PySem.Builtin._datetime
set_option maxHeartbeats 8000000
namespace Mine
set_option rowWalk.seconds 0

section
variable {w : World} {mean : ExcName → Option Value} {mg mb : Str → Option Value} {e1 e2 : Env} {cn : Str} {cs : Scope} {a : Addr} {ccd : Value} {base h₀ : Heap} {L : Addr} {m : Str → Option Value} {s : Shared} {news : List (Addr × Obj)} {Q E : Value → Shared → Prop}
theorem car_call {q : Addr} {y mo d hh mi ss : Int} {t1 t2 t3 t4 t5 t6 : Tok} {nl : Nat} (B : Below (callerA.deeper e1) base [e1] h₀) (F : Fr h₀ L s.heap m) (X : (K3 w.params).In h₀) (N : News h₀ L s.heap (news)) (T : Top hd.view_39 LO mean mg mb h₀) (hk : cs.kind = .function) (hq : (q, W.listOf #[.int y t1, .int mo t2, .int d t3, .int hh t4, .int mi t5, .int ss t6] nl) ∈ news) (hy : 1970 ≤ y ∧ y ≤ 9999) (hm : 1 ≤ mo ∧ mo ≤ 12) (hd : 1 ≤ d ∧ d ≤ 31) (hh1 : 0 ≤ hh ∧ hh ≤ 24) (hi1 : 0 ≤ mi ∧ mi ≤ 59) (hs1 : 0 ≤ ss ∧ ss ≤ 61)
  (hret : ∀ y' mo' d' hh' mi' ss' u1 u2 u3 u4 u5 u6 T h' tk' n, Carried y mo d hh mi ss y' mo' d' hh' mi' ss' → Fr h₀ L h' m → News h₀ L h' ((T, W.listOf #[.int y' u1, .int mo' u2, .int d' u3, .int hh' u4, .int mi' u5, .int ss' u6] n) :: news) → Q (.ref T) {s with heap := h', toks := tk'}) : wpAny (model PySem.Challenge.rw_in0097_01.row.prog w) ((callerA.deeper e1).deeper (envOf cn cs L a ccd)) (call (.ref 98) [.ref q]) Q E s := by
  have N := dup hq N
  w_top off
  k_with_none
  k_with "execs cons" => ((with_reducible refine wpAny_execs_cons ?_); (try (with_reducible refine gen_tk ?_; intro tk9)); try dsimp only)
  k_with "execs nil" => ((with_reducible refine wpAny_execs_nil ?_); (try dsimp only))
  k_with "call ref" => (k_here; (with_reducible show wpAny _ _ (call (Value.ref 91) [Value.int _ _, Value.int _ _]) _ _ _); k_dflt (refine' Mine.len_call ?zB ?zF ?zX ?zN ?zT ?zk ?zm ?_; (case zB => k_asm); (case zF => k_asm); (case zN => k_asm); (case zX => k_asm); (case zT => k_asm); (case zk => exact rfl); (case zm => omega); k_whole); intro zl t' h' tk' F' N')
  k_with "exec While Compare" => (k_here; k_dflt (refine whl_start 3 ?_))
  k_with "WhlIf" => (k_dflt (refine Mine.whlIf_split (fun zw => ?_) (fun zw => ?_)))
  k_with "WhlIf" => (k_dflt (refine Mine.whlIf_no (by omega) ?_))
  revert X; k_fill; intro X
  refine wpAny_call ?_
  k_dflt (refine' code_def ?k1 ?k2 ?k3 ?k4 ?k5 ?kA ?kF ?kK ?k6 ?k7 ?k8 ?k9 ?kB ?_ ?c2 ?c3 ?c4 ?c5; (case kA => exact rfl); (case kF => exact rfl); (case kK => assumption); (case k1 => k_asm); (case k2 => k_asm); (case k3 => k_asm); (case k4 => k_asm); (case k5 => k_asm); (case k6 => k_is); (case k7 => k_is); (case k8 => ktr_room); (case k9 => first | exact BindsTo.of_eq rfl | exact binds_K (by k_in) rfl (by k_is) rfl rfl rfl); (case c5 => decide); (case kB => exact locs rfl); (case c2 => exact rfl); (case c3 => exact rfl); (case c4 => exact rfl); k_whole; intro g' L' h' FG' F' N' B' X' T'; (try dsimp only); (try k_lift B'); (try k_fold))
  k_steps
  all_goals first
    | exact car_end hret (by assumption) (by assumption) (carried_year hy (by omega) (by omega) (by omega) (by omega))
    | exact car_end hret (by assumption) (by assumption) (carried_month hy (by omega) (by omega) (by omega) (by omega))
    | exact car_end hret (by assumption) (by assumption) (carried_stay hy hm (by omega) (by omega) (by omega))
end
end Mine

open PySem PySem.W PyProof.Rows PySem.Calls PySem.Builtin._datetime
set_option maxHeartbeats 8000000
namespace Mine
set_option rowWalk.seconds 0

section
variable {w : World} {mean : ExcName → Option Value} {mg mb : Str → Option Value} {e1 e2 : Env} {cn : Str} {cs : Scope} {a : Addr} {ccd : Value} {base h₀ : Heap} {L : Addr} {m : Str → Option Value} {s : Shared} {news : List (Addr × Obj)} {Q E : Value → Shared → Prop}
theorem written_call {n y mo dd hh mi ss : Int} {t : Tok} (B : Below (callerA.deeper e1) base [e1] h₀) (F : Fr h₀ L s.heap m) (X : (K3 w.params).In h₀) (N : News h₀ L s.heap (news)) (T : Top hd.view_39 LO mean mg mb h₀) (hk : cs.kind = .function) (V : Valid y mo dd hh mi ss) (hn : n = momentOf y mo dd hh mi ss) (h0 : 1000 ≤ y) (XB : (K3 w.params).In base) (TB : Top hd.view_39 LO mean mg mb base) (D : KtsDicts ([e1].filterMap (·.frame)) h₀)
  (hret1 : y ≤ 9999 → ∀ T u1 u2 h' tk' n, Fr h₀ L h' m → News h₀ L h' ((T, W.listOf #[.str (isoLaw y mo dd hh mi ss) u1, .str (netLaw (weekT y mo dd) (monT mo) y dd hh mi ss) u2] n) :: news) → Q (.ref T) {s with heap := h', toks := tk'})
  (hret2 : 9999 < y → ∀ h₁ T u1 u2 h' tk' n, KtsTurn ([e1].filterMap (·.frame)) h₀ h₁ → Fr h₁ L h' m → News h₁ L h' ((T, W.listOf #[.str (Str.ofString "refused") u1, .str (Str.ofString "refused") u2] n) :: news) → Below (callerA.deeper e1) base [e1] h₁ → (K3 w.params).In h₁ → Top hd.view_39 LO mean mg mb h₁ → KtsDicts ([e1].filterMap (·.frame)) h₁ → Q (.ref T) {s with heap := h', toks := tk'}) : wpAny (model PySem.Challenge.rw_in0097_01.row.prog w) ((callerA.deeper e1).deeper (envOf cn cs L a ccd)) (call (.ref 126) [.int n t]) Q E s := by
  w_top off
  k_with_none
  k_with "execs cons" => ((with_reducible refine wpAny_execs_cons ?_); (try (with_reducible refine gen_tk ?_; intro tk9)); try dsimp only)
  k_with "execs nil" => ((with_reducible refine wpAny_execs_nil ?_); (try dsimp only))
  k_with "call ref" => (k_here; (with_reducible show wpAny _ _ (call (Value.ref 69) [Value.int _ _]) _ _ _); k_dflt ((refine' Mine.iso_call ?zB ?zF ?zX ?zN ?zT ?zk ?zV ?zn ?z0 (fun hy9 t' h' tk' F' N' => ?_) (fun hy9 G' e' h' tk' FG' S' U' => ?_); (case zB => k_asm); (case zF => k_asm); (case zN => k_asm); (case zX => k_asm); (case zT => k_asm); (case zk => exact rfl); (case zV => assumption); (case zn => assumption); (case z0 => assumption)) <;> (try (exfalso; omega)) <;> (try dsimp only)))
  k_with "call ref" => (k_here; (with_reducible show wpAny _ _ (call (Value.ref 77) [Value.int _ _]) _ _ _); k_dflt ((refine' Mine.net_call ?zB ?zF ?zX ?zN ?zT ?zk ?zV ?zn ?z0 (fun hy9 t' h' tk' F' N' => ?_) (fun hy9 G' e' h' tk' FG' S' U' => ?_); (case zB => k_asm); (case zF => k_asm); (case zN => k_asm); (case zX => k_asm); (case zT => k_asm); (case zk => exact rfl); (case zV => assumption); (case zn => assumption); (case z0 => assumption)) <;> (try (exfalso; omega)) <;> (try dsimp only)))
  revert X; k_fill; intro X
  refine wpAny_call ?_
  rcases Int.lt_or_le 9999 y with hy | hy
  all_goals (k_dflt (refine' code_defS ?k1 ?k2 ?k3 ?k4 ?k5 ?XB ?TB ?D ?T0 ?kA ?k6 ?k7 ?k8 ?k9 ?kB ?_ ?cK ?c2 ?c3 ?c4 ?c5; (case kA => exact rfl); (case k2 => k_asm); (case k1 => k_asm); (case XB => assumption); (case TB => assumption); (case D => assumption); (case T0 => exact KtsTurn.refl); (case k3 => k_asm); (case k4 => k_asm); (case k5 => k_asm); (case k6 => k_is); (case k7 => k_is); (case k8 => ktr_room); (case k9 => first | exact BindsTo.of_eq rfl | exact binds_K (by k_in) rfl (by k_is) rfl rfl rfl); (case kB => exact locs rfl); (case cK => assumption); (case c2 => exact rfl); (case c3 => exact rfl); (case c4 => exact rfl); (case c5 => decide); k_whole; intro g' L' h' FG' F' N' B' X' T' D'; (try dsimp only); (try k_lift B'); (try k_fold)); k_steps)
  all_goals first
    | exact hret1 hy _ _ _ _ _ _ (by assumption) (by assumption)
    | exact hret2 hy _ _ _ _ _ _ _ (by assumption) (by assumption) (by assumption) (by assumption) (by assumption) (by assumption) (by assumption)
end
end Mine

open PySem PySem.W PyProof.Rows PySem.Calls PySem.Builtin._datetime
set_option maxHeartbeats 8000000
namespace Mine
set_option rowWalk.seconds 0

section
variable {w : World} {mean : ExcName → Option Value} {mg mb : Str → Option Value} {e1 e2 : Env} {cn : Str} {cs : Scope} {a : Addr} {ccd : Value} {base h₀ : Heap} {L : Addr} {m : Str → Option Value} {s : Shared} {news : List (Addr × Obj)} {Q E : Value → Shared → Prop}
theorem fields_call {x : Int} {t : Tok} (B : Below (callerA.deeper e1) base [e1] h₀) (F : Fr h₀ L s.heap m) (X : (K3 w.params).In h₀) (N : News h₀ L s.heap (news)) (T : Top hd.view_39 LO mean mg mb h₀) (hk : cs.kind = .function) 
  (hret : ∀ y mo d hh mi ss u1 u2 u3 u4 u5 u6 T h' tk' n, Flds y mo d hh mi ss → Fr h₀ L h' m → News h₀ L h' ((T, W.listOf #[.int y u1, .int mo u2, .int d u3, .int hh u4, .int mi u5, .int ss u6] n) :: news) → Q (.ref T) {s with heap := h', toks := tk'}) : wpAny (model PySem.Challenge.rw_in0097_01.row.prog w) ((callerA.deeper e1).deeper (envOf cn cs L a ccd)) (call (.ref 84) [.int x t]) Q E s := by
  w_top off
  k_with_none
  k_with "execs cons" => ((with_reducible refine wpAny_execs_cons ?_); (try (with_reducible refine gen_tk ?_; intro tk9)); try dsimp only)
  k_with "execs nil" => ((with_reducible refine wpAny_execs_nil ?_); (try dsimp only))
  revert X; k_fill; intro X
  refine wpAny_call ?_
  k_dflt (refine' code_def ?k1 ?k2 ?k3 ?k4 ?k5 ?kA ?kF ?kK ?k6 ?k7 ?k8 ?k9 ?kB ?_ ?c2 ?c3 ?c4 ?c5; (case kA => exact rfl); (case kF => exact rfl); (case kK => assumption); (case k1 => k_asm); (case k2 => k_asm); (case k3 => k_asm); (case k4 => k_asm); (case k5 => k_asm); (case k6 => k_is); (case k7 => k_is); (case k8 => ktr_room); (case k9 => first | exact BindsTo.of_eq rfl | exact binds_K (by k_in) rfl (by k_is) rfl rfl rfl); (case c5 => decide); (case kB => exact locs rfl); (case c2 => exact rfl); (case c3 => exact rfl); (case c4 => exact rfl); k_whole; intro g' L' h' FG' F' N' B' X' T'; (try dsimp only); (try k_lift B'); (try k_fold))
  k_steps
  exact hret _ _ _ _ _ _ _ _ _ _ _ _ _ _ _ _ (flds_of x) (by assumption) (by assumption)
end
end Mine

open PySem PySem.W PyProof.Rows PySem.Calls PySem.Builtin._datetime
set_option maxHeartbeats 8000000
namespace Mine
set_option rowWalk.seconds 0

section
variable {w : World} {mean : ExcName → Option Value} {mg mb : Str → Option Value} {e1 e2 : Env} {cn : Str} {cs : Scope} {a : Addr} {ccd : Value} {base h₀ : Heap} {L : Addr} {m : Str → Option Value} {s : Shared} {news : List (Addr × Obj)} {Q E : Value → Shared → Prop}
theorem right_call {x : Int} {t : Tok} (B : Below callerA base [] h₀) (F : Fr h₀ L s.heap m) (X : (K3 w.params).In h₀) (N : News h₀ L s.heap (news)) (T : Top hd.view_39 LO mean mg mb h₀) (hk : cs.kind = .function) (XB : (K3 w.params).In base) (TB : Top hd.view_39 LO mean mg mb base)
  (hret : ∀ h' tk', Fr h₀ L h' m → News h₀ L h' news → Q (.bool true) {s with heap := h', toks := tk'}) : wpAny (model PySem.Challenge.rw_in0097_01.row.prog w) (callerA.deeper (envOf cn cs L a ccd)) (call (.ref 133) [.int x t]) Q E s := by
  w_top off
  k_with_none
  k_with "execs cons" => ((with_reducible refine wpAny_execs_cons ?_); (try (with_reducible refine gen_tk ?_; intro tk9)); try dsimp only)
  k_with "execs nil" => ((with_reducible refine wpAny_execs_nil ?_); (try dsimp only))
  k_with "compareOp In int ref" => (k_here; (with_reducible show wpAny _ _ (compareOp CmpOp.In (Value.int _ _) (Value.ref _)) _ _ _); k_dflt (refine' Mine.in_range ?hr ?_; (case hr => with_reducible assumption); k_whole))
  k_with "call ref" => (k_here; (with_reducible show wpAny _ _ (call (Value.ref 84) [Value.int _ _]) _ _ _); k_dflt ((refine' Mine.fields_call ?zB ?zF ?zX ?zN ?zT ?zk  ?_; (case zB => k_asm); (case zF => k_asm); (case zN => k_asm); (case zX => k_asm); (case zT => k_asm); (case zk => exact rfl); ); k_whole; intro y mo d hh mi ss u1 u2 u3 u4 u5 u6 T' h' tk' n' fl F' N'; (have fl1 := Flds.y0 fl; have fl2 := Flds.y1 fl; have fl3 := Flds.m0 fl; have fl4 := Flds.m1 fl; have fl5 := Flds.d0 fl; have fl6 := Flds.d1 fl; have fl7 := Flds.h0 fl; have fl8 := Flds.h1 fl; have fl9 := Flds.i0 fl; have fl10 := Flds.i1 fl; have fl11 := Flds.s0 fl; have fl12 := Flds.s1 fl); rcases Mine.three fl with hg | hg | hg))
  k_with "call ref" => (k_here; (with_reducible show wpAny _ _ (call (Value.ref 59) [Value.ref _]) _ _ _); k_dflt ((refine' Mine.tgm_call ?zB ?zF ?zX ?zN ?zT ?zk ?zq ?zr ?zy (fun hg1 h' tk' F' N' => ?_) (fun hg1 hy9 t' h' tk' F' N' => ?_) (fun hg1 hy9 G' e' h' tk' FG' S' U' => ?_); (case zB => k_asm); (case zF => k_asm); (case zN => k_asm); (case zX => k_asm); (case zT => k_asm); (case zk => exact rfl); (case zq => k_mem); (case zr => first | omega | decide); (case zy => omega)) <;> (try (exfalso; omega)) <;> (try dsimp only)))
  k_with "call ref" => (k_here; (with_reducible show wpAny _ _ (call (Value.ref 98) [Value.ref _]) _ _ _); k_dflt ((refine' Mine.car_call ?zB ?zF ?zX ?zN ?zT ?zk ?zq ?zy ?zm ?zd ?zh ?zi ?zs ?_; (case zB => k_asm); (case zF => k_asm); (case zN => k_asm); (case zX => k_asm); (case zT => k_asm); (case zk => exact rfl); (case zq => k_mem); (case zy => omega); (case zm => omega); (case zd => omega); (case zh => omega); (case zi => omega); (case zs => omega)); k_whole; intro y' mo' d' hh' mi' ss' u1 u2 u3 u4 u5 u6 T' h' tk' n' C' F' N'; (have V' := C'.V; have M' := C'.M; have Y' := C'.Y; have vv1 := V'.y2; have vv2 := V'.m1; have vv3 := V'.m2; have vv4 := V'.d1; have vv5 := V'.d2; have vv6 := Mine.dim_pos y' mo' vv2 vv3; have vv7 := V'.h1; have vv8 := V'.h2; have vv9 := V'.i1; have vv10 := V'.i2; have vv11 := V'.s1; have vv12 := V'.s2)))
  k_with "call ref" => (k_here; (with_reducible show wpAny _ _ (call (Value.ref 126) [Value.int _ _]) _ _ _); k_dflt ((refine' Mine.written_call ?zB ?zF ?zX ?zN ?zT ?zk ?zV ?zn ?z0 ?zXB ?zTB ?zD (fun hy9 T' u1 u2 h' tk' n' F' N' => ?_) (fun hy9 g' T' u1 u2 h' tk' n' KT' F' N' B' X' P' D' => ?_); (case zB => k_asm); (case zF => k_asm); (case zN => k_asm); (case zX => k_asm); (case zT => k_asm); (case zk => exact rfl); (case zV => assumption); (case zn => assumption); (case z0 => omega); (case zXB => assumption); (case zTB => assumption); (case zD => assumption)) <;> (try (exfalso; omega)) <;> (try dsimp only)))
  k_with "call ref" => (k_here; (with_reducible show wpAny _ _ (call (Value.ref 119) [Value.ref _]) _ _ _); k_dflt ((refine' Mine.texts_call ?zB ?zF ?zX ?zN ?zT ?zk ?zq ?zy ?zm ?zd ?zh ?zi ?zs ?_; (case zB => k_asm); (case zF => k_asm); (case zN => k_asm); (case zX => k_asm); (case zT => k_asm); (case zk => exact rfl); (case zq => k_mem); (case zy => omega); (case zm => omega); (case zd => omega); (case zh => omega); (case zi => omega); (case zs => omega)); k_whole; intro T' u1 u2 h' tk' n' F' N'))
  k_with "subscriptTail Name Slice ref ref" => (k_here; (with_reducible show wpAny _ _ (subscriptTail _ _ (Value.ref _) (Value.ref _)) _ _ _); k_dflt (refine' Mine.slice_two ?zF ?zN ?zm ?_ ?zs ?zg; (case zF => k_asm); (case zN => k_asm); (case zm => k_mem); (case zs => with_unfolding_all rfl); (case zg => (intro _; with_unfolding_all rfl)); k_whole); intro r' T' h' lr' F' N')
  k_with "binaryOp Add ref ref" => (k_here; (with_reducible show wpAny _ _ (binaryOp Operator.Add (Value.ref _) (Value.ref _)) _ _ _); k_dflt (refine' Mine.add_six ?zF ?zN ?zm ?zb ?zr ?_; (case zF => k_asm); (case zN => k_asm); (case zm => k_mem); (case zb => k_mem); (case zr => assumption); k_whole); intro T' h' F' N')
  k_with "call type:tuple" => (k_here; (with_reducible show wpAny _ _ (call (Value.type _) [Value.ref _]) _ _ _); k_dflt (refine' Mine.tuple_six ?zF ?zN ?zm ?zr ?_; (case zF => k_asm); (case zN => k_asm); (case zm => k_mem); (case zr => (simp only [List.length_cons]; omega)); k_whole); intro T' h' F' N')
  k_with "compareOp Eq ref ref" => (k_here; (with_reducible show wpAny _ _ (compareOp CmpOp.Eq (Value.ref _) (Value.ref _)) _ _ _); k_dflt (refine' Mine.eq_two ?zN ?zl ?zb ?zu ?_; (case zN => k_asm); (case zl => k_mem); (case zb => k_mem); (case zu => ke_room); k_whole))
  k_with "subscriptTail Name Constant ref int" => (k_here; (with_reducible show wpAny _ _ (subscriptTail _ _ (Value.ref _) (Value.int 0 _)) _ _ _); k_dflt (refine' Mine.item0 ?zN ?zm ?_ ?zs; (case zN => k_asm); (case zm => k_mem); (case zs => with_unfolding_all rfl); k_whole))
  revert X; k_fill; intro X
  refine wpAny_call ?_
  k_dflt (refine' code_defS0 ?k1 ?k2 ?k3 ?k4 ?k5 ?kA ?k6 ?k7 ?k8 ?k9 ?kB ?_ ?cK ?c2 ?c3 ?c4 ?c5; (case kA => exact rfl); (case k2 => k_asm); (case k1 => k_asm); (case k3 => k_asm); (case k4 => k_asm); (case k5 => k_asm); (case k6 => k_is); (case k7 => k_is); (case k8 => ktr_room); (case k9 => first | exact BindsTo.of_eq rfl | exact binds_K (by k_in) rfl (by k_is) rfl rfl rfl); (case kB => exact locs rfl); (case cK => assumption); (case c2 => exact rfl); (case c3 => exact rfl); (case c4 => exact rfl); (case c5 => decide); k_whole; intro g' L' h' FG' F' N' B' X' T' D'; (try dsimp only); (try k_lift B'); (try k_fold))
  k_steps
  all_goals first
    | exact absurd (mod_of _ _ _ _ _) (by assumption)
    | ((with_reducible rename News _ _ _ _ => zN); repeat (first
        | exact end_bool hret (by assumption) zN (by first | rfl | exact decide_eq_true (by omega) | exact not_dec (by omega))
        | replace zN := tl zN))
end
end Mine

open PySem PySem.W PyProof.Rows PySem.Calls PySem.Builtin._datetime
set_option maxHeartbeats 8000000
namespace Mine
set_option rowWalk.seconds 0

theorem law_holds : PySem.Challenge.rw_in0097_01.Holds := Mine.hd (by
  k_fill
  intro w s₀ s₁ mg mb G Y fa o pm cd doc dV kV ho hd hcd hD hmg hg args vals as hpre hlay hrd hwl hlo
  have KX := k3_in (in2 Y) (two2 Y)
  w_top off
  k_with_none
  k_with "execs cons" => ((with_reducible refine wpAny_execs_cons ?_); (try (with_reducible refine gen_tk ?_; intro tk9)); try dsimp only)
  k_with "execs nil" => ((with_reducible refine wpAny_execs_nil ?_); (try dsimp only))
  k_with "call ref" => (k_here; (with_reducible show wpAny _ _ (call (Value.ref 133) [Value.int _ _]) _ _ _); k_dflt (refine' Mine.right_call ?zB ?zF ?zX ?zN ?zT ?zk ?zXB ?zTB ?_; (case zB => k_asm); (case zF => k_asm); (case zN => k_asm); (case zX => k_asm); (case zT => k_asm); (case zk => exact rfl); (case zXB => assumption); (case zTB => assumption); k_whole); intro h' tk' F' N')
  k_with "exec For Name BinOp" => (k_here; (rename Fr _ _ _ _ => lF'); (with_unfolding_all refine' For_invVF lF' ?zk1 ?zk2 ?_; (case zk1 => exact rfl); (case zk2 => exact rfl); k_whole))
  k_with "pyIter ref" => (k_here; (with_reducible show wpAny _ _ (pyIter (Value.ref _)) (fun it s₂ => LoopAtV _ _ _ _ _ _ _ _ _ it s₂) _ _); k_dflt (refine' Mine.law_loop ?zh ?zl ?zi ?zF ?zN (fun n' t' m' led' h' tk' F' N' => ?_) (fun m' h' tk' F' N' => ?_); (case zh => exact rfl); (case zF => k_asm); (case zN => k_asm); (case zl => k_mem); (case zi => assumption)))
  k_with "TurnOn" => exact Mine.TurnOn.mk (by assumption) (by assumption)
  revert KX; k_fill; intro KX
  k_behind G ho hd hcd hD hmg hpre hlay hrd hwl hlo cd
  all_goals (try k_fold)
  k_steps)
end Mine
end
theorem PySem.Challenge.cw_in0097_01_holds : PySem.Challenge.rw_in0097_01.Holds := by
  exact Mine.law_holds
