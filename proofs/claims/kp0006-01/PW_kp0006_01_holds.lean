import PyProof.Rows.All
import Wide.All
import OpenK.AllK
import Wide.FinOn
import Lean
import PySem.Challenge.RW_kp0006_01
/-! The law of _isfinite: the two defs' contracts by hand, at the level of wpAny; the law itself by the walk, with local lines. -/
set_option Elab.async false
set_option maxRecDepth 100000
set_option maxHeartbeats 2000000
namespace Mine
open PySem PySem.W PySem.Calls PyProof.Rows PySem.Flt

theorem frac_fin {sg : Bool} {n d : Nat} (hd : 0 < d) (hn : n < 2 ^ 1024 - 2 ^ 970) : Float64.isFinite (Float64.ofFrac sg n d) = true := by
  have hlt : Float64.roundMag n d < Float64.infMag := by
    refine Nat.lt_of_le_of_ne (W.roundMag_le n d) fun e => ?_
    have h := (Float64.roundMag_over hd).mp e
    have e1 : (2 : Nat) ^ 2045 = 2 * 2 ^ 970 * 2 ^ 1074 := by rw [Nat.mul_assoc, ← Nat.pow_add, ← Nat.pow_add_one']
    have e2 : (2 : Nat) ^ 1024 = 2 ^ 54 * 2 ^ 970 := by rw [← Nat.pow_add]
    have hK : 0 < (2 : Nat) ^ 1074 := Nat.two_pow_pos _
    have hJ : 0 < (2 : Nat) ^ 970 := Nat.two_pow_pos _
    rw [e1] at h; rw [e2] at hn
    generalize (2 : Nat) ^ 1074 = K at *
    generalize (2 : Nat) ^ 970 = J at *
    have h1 : 1 * ((2 ^ 54 - 1) * (2 * J * K)) ≤ d * ((2 ^ 54 - 1) * (2 * J * K)) := Nat.mul_le_mul_right _ hd
    have h2 : n * K < (2 ^ 54 * J - J) * K := Nat.mul_lt_mul_of_pos_right hn hK
    have h3 : (2 ^ 54 - 1) * (2 * J * K) = 2 * ((2 ^ 54 * J - J) * K) := by
      have e4 : 2 ^ 54 * J - J = (2 ^ 54 - 1) * J := by rw [Nat.sub_mul, Nat.one_mul]
      rw [e4]
      simp only [Nat.mul_assoc, Nat.mul_left_comm]
    rw [h3] at h1 h
    omega
  obtain ⟨m, e, h1, _⟩ := Float64.decode_pack sg hlt
  unfold Float64.isFinite Float64.ofFrac
  rw [h1]

theorem entry_unchain : entryFor table "proto.unchain" = some Builtin.«proto.unchain» := entryFor_of_tree (by kernel_rfl)

section
variable {α : Type} {prog : Program} {w : World} {A : Around} {E : Value → Shared → Prop} {s : Shared}

/-- an exception raised while e1, whose own context is none, is being handled -/
theorem raise_chained {e1 e2 : Addr} {o1 o2 : Obj} {v1 v2 : Array Value} {Q : α → Shared → Prop}
    (hh : A.handled = some (.ref e1)) (hne : e2 ≠ e1) (h1 : s.heap.get? e1 = some o1) (d1 : o1.data = .fields v1) (c1 : v1[2]? = some .none)
    (h2 : s.heap.get? e2 = some o2) (d2 : o2.data = .fields v2) (z2 : 2 < v2.size)
    (k : E (.ref e2) { s with heap := s.heap.update e2 (Obj.mapFields (·.setIfInBounds 2 (.ref e1))) }) :
    wpAny (model prog w) A (raiseNew (.ref e2) : Sem α) Q E s := by
  unfold raiseNew
  refine wpAny_bind (wpAny_handled ?_)
  rw [hh]
  dsimp only
  have hb : (Value.ref e1 != Value.ref e2) = true := by
    simp only [bne_iff_ne, ne_eq, Value.ref.injEq]
    exact fun q => hne q.symm
  rw [if_pos hb]
  refine wpAny_bind (wpAny_holding (wpAny_runValue (codeAny_builtin entry_unchain ?_)))
  show wpAny _ _ (Builtin.«proto.unchain» _) _ _ s
  unfold Builtin.«proto.unchain»
  dsimp only
  refine wpAny_bind (wpAny_field h1 d1 c1 ?_)
  rw [if_pos (by rfl)]
  refine wpAny_bind (m := ret .none) (wpAny_pure ?_)
  refine wpAny_pure ?_
  dsimp only
  exact wpAny_bind (show wpAny _ _ (setField (.ref e2) 2 (.ref e1)) _ _ s from wpAny_setField h2 d2 z2 (wpAny_throw k))

/-- what stands behind such a raise -/
structure Chained (h h' : Heap) (e : Addr) (X : String) : Prop where
  keeps : ∀ b o, h.get? b = some o → h'.get? b = some o
  new : h.get? e = none
  there : ∃ ob t c, h'.get? e = some ob ∧ ob.cls = .type X ∧ ob.data = .fields #[t, .none, c, .none, .bool false, .none]

/-- the exception at hand: its class is any, its context none -/
def Held (h : Heap) (e : Addr) : Prop := ∃ o v, h.get? e = some o ∧ o.data = .fields v ∧ v[2]? = some .none

theorem made_chained {X : String} {args : List Value} {e1 : Addr} {Q : α → Shared → Prop} (hp : PlainExc X) (hh : A.handled = some (.ref e1)) (h1 : Held s.heap e1)
    (k : ∀ h' e, Chained s.heap h' e X → E (.ref e) { s with heap := h' }) (hargs : args.length ≤ sizeLine := by size_fits) :
    wpAny (model prog w) A (newExc (.type X) args >>= fun e => (raiseNew e : Sem α)) Q E s := by
  refine wpAny_bind (wpAny_newExc_plain hp (fun h' e hm => ?_) hargs)
  obtain ⟨o1, v1, g1, d1, c1⟩ := h1
  obtain ⟨t, he, htn, ht⟩ := hm.there
  have hne : e ≠ e1 := fun q => by
    have := hm.new
    rw [q, g1] at this
    cases this
  refine raise_chained hh hne (hm.keeps _ _ g1) d1 c1 he rfl (by show 2 < 6; decide) ?_
  refine k _ e ⟨fun b o hb => ?_, hm.new, ?_⟩
  · have hbe : e ≠ b := fun q => by
      have := hm.new
      rw [q, hb] at this
      cases this
    exact (Heap.get?_update_other _ _ hbe).trans (hm.keeps _ _ hb)
  · exact ⟨_, .ref t, .ref e1, Heap.get?_update_self _ he (by rfl), rfl, rfl⟩

theorem words_chained {X msg : String} {e1 : Addr} {Q : α → Shared → Prop} (hp : PlainExc X) (hh : A.handled = some (.ref e1)) (h1 : Held s.heap e1)
    (k : ∀ h' tk e, Chained s.heap h' e X → E (.ref e) { s with heap := h', toks := tk }) :
    wpAny (model prog w) A (raiseErrorWords X msg : Sem α) Q E s := by
  unfold raiseErrorWords
  refine wpAny_bind (wpAny_mkText ?_)
  exact made_chained hp hh h1 fun h' e hc => k h' _ e hc

theorem text_chained {X msg : String} {e1 : Addr} {Q : α → Shared → Prop} (hp : PlainExc X) (hh : A.handled = some (.ref e1)) (h1 : Held s.heap e1)
    (k : ∀ h' tk e, Chained s.heap h' e X → E (.ref e) { s with heap := h', toks := tk }) (hm : (msg : Str).length ≤ sizeLine := by size_fits) :
    wpAny (model prog w) A (raiseErrorMade X msg : Sem α) Q E s := by
  unfold raiseErrorMade
  refine wpAny_bind (wpAny_mkStr ?_ hm)
  exact made_chained hp hh h1 fun h' e hc => k h' _ e hc

end

theorem miss_int : typeLookup (.type "int") "is_finite" = pure none := am_miss_of_fast (by decide +kernel)
theorem miss_bool : typeLookup (.type "bool") "is_finite" = pure none := am_miss_of_fast (by decide +kernel)
theorem miss_float : typeLookup (.type "float") "is_finite" = pure none := am_miss_of_fast (by decide +kernel)
theorem miss_str : typeLookup (.type "str") "is_finite" = pure none := am_miss_of_fast (by decide +kernel)
theorem miss_none : typeLookup (.type "NoneType") "is_finite" = pure none := am_miss_of_fast (by decide +kernel)
theorem miss_list : typeLookup (.type "list") "is_finite" = pure none := am_miss_of_fast (by decide +kernel)
theorem name_size : Str.length "is_finite" + 100 ≤ sizeLine := by decide +kernel

theorem meets_miss_float (x : UInt64) (t : Tok) (name : Str) (u : Tok) (hmiss : typeLookup (.type "float") name = pure none) (hsz : name.length + 100 ≤ sizeLine) :
    Meets (Builtin.«object.__getattribute__» ⟨[.float x t, .str name u], []⟩) (raisesAttr (.float x t) name) :=
  Meets.of_wp fun prog w A R s hs => by
    obtain ⟨hp, g, d, tk, os⟩ := s
    have hT : ∀ s' : Shared, s'.TypeIs (.float x t) "float" := fun _ => rfl
    unfold Builtin.«object.__getattribute__»
    repeat (any_goals (first | assumption | wp_step))
    exact wpAny_raiseAttrError hs.1 hs.2 (attrMsg_fits (by decide +kernel) hsz)

section
variable {prog : Program} {w : World} {A : Around} {E : Value → Shared → Prop} {s : Shared}

/-- an attribute that is not there, on a value whose type's own look is the object's -/
theorem attr_gen {Q : Value → Shared → Prop} {b : Bool} {v : Value} {T ga : String} {B : Builtin} {name : Str} {P : Shared → Prop}
    (hT : ∀ tk, ({ s with toks := tk } : Shared).TypeIs v T) (sl : Slot T "__getattribute__" ga) (en : entryFor table ga = some B) (ar : ∀ u, argsOk ga ⟨[v, .str name u], []⟩)
    (hm : ∀ u, Meets (B ⟨[v, .str name u], []⟩) (fun A R s' => P s' ∧ raisesAttr v name A R s')) (hP : ∀ tk, P { s with toks := tk })
    (hng : typeLookup (.type T) "__getattr__" = pure none) (hA : A.handled = none)
    (h : ∀ h' tk e, Heap.NewAttrErr s.heap h' e v name → E (.ref e) { s with heap := h', toks := tk }) :
    wpAny (model prog w) A (getAttr v name b) Q E s := by
  obtain ⟨hp, g, d, tk, os⟩ := s
  have f1 := sub_AttributeError
  have f3 := sl.lookup
  have f4 := sl.bind v
  unfold getAttr getAttrBy
  cases b
  all_goals
    repeat (any_goals (first | assumption | exact hT _ | (with_reducible refine wpAny_typeOf (hT _) ?_) | ((with_reducible show wpAny _ _ (call (Value.builtin _) _ _) _ _ _); refine call_meets sl (hT _) en (ar _) (hm _) ⟨hP _, hA, fun h' tk' e hx => ?_⟩) | wp_step))
    obtain ⟨t', u', he⟩ := hx.there
    show wpAny _ _ (getattributeRaised _ _ _ _ _ _ _) _ _ _
    unfold getattributeRaised
    repeat (any_goals (first | assumption | wp_step))
    exact h _ _ _ hx

theorem meth_gen {Q : Value × List Value → Shared → Prop} {pl : Sem Bool} {v : Value} {T ga : String} {B : Builtin} {name : Str} {P : Shared → Prop}
    (hT : ∀ tk, ({ s with toks := tk } : Shared).TypeIs v T) (sl : Slot T "__getattribute__" ga) (en : entryFor table ga = some B) (ar : ∀ u, argsOk ga ⟨[v, .str name u], []⟩)
    (hm : ∀ u, Meets (B ⟨[v, .str name u], []⟩) (fun A R s' => P s' ∧ raisesAttr v name A R s')) (hP : ∀ tk, P { s with toks := tk })
    (pa : PlainAttrs T) (hmiss : typeLookup (.type T) name = pure none) (hA : A.handled = none)
    (h : ∀ h' tk e, Heap.NewAttrErr s.heap h' e v name → E (.ref e) { s with heap := h', toks := tk }) :
    wpAny (model prog w) A (getMethod v name pl) Q E s := by
  obtain ⟨g, hg, hcan⟩ := pa.ga
  have hT0 : s.TypeIs v T := hT s.toks
  unfold getMethod
  refine wpAny_bind (wpAny_specialOf hT0 hg ?_)
  show wpAny _ A (if (Manifest.canonical g != "object.__getattribute__") = true then _ else _) Q E s
  rw [hcan, if_neg Bool.false_ne_true]
  refine wpAny_bind (wpAny_specialOf hT0 pa.noGetattr ?_)
  refine wpAny_bind (wpAny_specialOf hT0 hmiss ?_)
  exact wpAny_bind (attr_gen hT sl en ar hm hP pa.noGetattr hA h)
end

theorem lift_meets {t : Sem Fin} {S : PySem.Spec} (h : Meets t S) : Meets t (fun A R s' => True ∧ S A R s') := fun prog w A R s hs => h prog w A R s hs.2

section
variable {prog : Program} {w : World} {A : Around} {E : Value → Shared → Prop} {s : Shared} {Q : Value × List Value → Shared → Prop} {pl : Sem Bool}

theorem meth_float {x : UInt64} {t : Tok} (hA : A.handled = none) (h : ∀ h' tk e, Heap.NewAttrErr s.heap h' e (.float x t) "is_finite" → E (.ref e) { s with heap := h', toks := tk }) :
    wpAny (model prog w) A (getMethod (.float x t) "is_finite" pl) Q E s :=
  meth_gen (T := "float") (P := fun _ => True) (fun _ => rfl) F.slot_float_getattribute F.entry_object_getattribute (fun _ => F.args_object_getattribute_2 _ _) (fun u => lift_meets (meets_miss_float x t _ u miss_float name_size)) (fun _ => trivial) F.plainAttrs_float miss_float hA h
theorem meth_int {x : Int} {t : Tok} (hA : A.handled = none) (h : ∀ h' tk e, Heap.NewAttrErr s.heap h' e (.int x t) "is_finite" → E (.ref e) { s with heap := h', toks := tk }) :
    wpAny (model prog w) A (getMethod (.int x t) "is_finite" pl) Q E s :=
  meth_gen (T := "int") (P := fun _ => True) (fun _ => rfl) F.slot_int_getattribute am_entry_int_getattribute (fun _ => F.args_int_getattribute_2 _ _) (fun u => lift_meets (meets_getattribute_miss_int x t _ u miss_int name_size)) (fun _ => trivial) F.plainAttrs_int miss_int hA h
theorem meth_bool {x : Bool} (hA : A.handled = none) (h : ∀ h' tk e, Heap.NewAttrErr s.heap h' e (.bool x) "is_finite" → E (.ref e) { s with heap := h', toks := tk }) :
    wpAny (model prog w) A (getMethod (.bool x) "is_finite" pl) Q E s :=
  meth_gen (T := "bool") (P := fun _ => True) (fun _ => rfl) F.slot_bool_getattribute am_entry_int_getattribute (fun _ => F.args_int_getattribute_2 _ _) (fun u => lift_meets (meets_getattribute_miss_bool x _ u miss_bool name_size)) (fun _ => trivial) F.plainAttrs_bool miss_bool hA h
theorem meth_str {x : Str} {t : Tok} (hA : A.handled = none) (h : ∀ h' tk e, Heap.NewAttrErr s.heap h' e (.str x t) "is_finite" → E (.ref e) { s with heap := h', toks := tk }) :
    wpAny (model prog w) A (getMethod (.str x t) "is_finite" pl) Q E s :=
  meth_gen (T := "str") (P := fun _ => True) (fun _ => rfl) F.slot_str_getattribute F.entry_object_getattribute (fun _ => F.args_object_getattribute_2 _ _) (fun u => lift_meets (meets_getattribute_miss_str x t _ u miss_str name_size)) (fun _ => trivial) F.plainAttrs_str miss_str hA h
theorem meth_none (hA : A.handled = none) (h : ∀ h' tk e, Heap.NewAttrErr s.heap h' e .none "is_finite" → E (.ref e) { s with heap := h', toks := tk }) :
    wpAny (model prog w) A (getMethod .none "is_finite" pl) Q E s :=
  meth_gen (T := "NoneType") (P := fun _ => True) (fun _ => rfl) F.slot_NoneType_getattribute F.entry_object_getattribute (fun _ => F.args_object_getattribute_2 _ _) (fun u => lift_meets (meets_getattribute_miss_none _ u miss_none name_size)) (fun _ => trivial) F.plainAttrs_NoneType miss_none hA h
theorem meth_list {a : Addr} {xs : Array Value} {k : Nat} {sl : Array (Option Value)} (hx : s.heap.get? a = some { cls := .type "list", dict := none, data := .seq xs k, slots := sl }) (hA : A.handled = none)
    (h : ∀ h' tk e, Heap.NewAttrErr s.heap h' e (.ref a) "is_finite" → E (.ref e) { s with heap := h', toks := tk }) :
    wpAny (model prog w) A (getMethod (.ref a) "is_finite" pl) Q E s :=
  meth_gen (T := "list") (P := fun s' => s'.heap.get? a = some { cls := .type "list", dict := none, data := .seq xs k, slots := sl }) (fun _ => ⟨_, hx, rfl⟩) F.slot_list_getattribute am_entry_list_getattribute (fun _ => F.args_list_getattribute_2 _ _)
    (fun u => meets_getattribute_miss_list a xs k sl _ u miss_list (by decide +kernel) name_size) (fun _ => hx) F.plainAttrs_list miss_list hA h
end

def chains (e1 : Addr) (X : String) : PySem.Spec := fun A R s => A.handled = some (.ref e1) ∧ Held s.heap e1 ∧ ∀ h' tk e, Chained s.heap h' e X → R (.error (.ref e)) { s with heap := h', toks := tk }

theorem meets_over {n : Int} {t : Tok} {e1 : Addr} (c : Over n) : Meets (Builtin.«int.__float__» ⟨[.int n t], []⟩) (chains e1 "OverflowError") :=
  Meets.of_wp fun prog w A R s hs => by
    obtain ⟨hA, hh, k⟩ := hs
    obtain ⟨hp, g, d, tk, os⟩ := s
    have f5 := inf_of_over c
    repeat (any_goals (first | assumption | wp_step))
    exact words_chained plainExc_OverflowError hA hh k

section
variable {prog : Program} {w : World} {A : Around} {E : Value → Shared → Prop} {s : Shared}

theorem arg_over {n : Int} {t : Tok} {e1 : Addr} {Q : UInt64 → Shared → Prop} (c : Over n) (hA : A.handled = some (.ref e1)) (hh : Held s.heap e1)
    (k : ∀ h' tk e, Chained s.heap h' e "OverflowError" → E (.ref e) { s with heap := h', toks := tk }) :
    wpAny (model prog w) A (Builtin.Math.realArg (.int n t)) Q E s := by
  obtain ⟨hp, g, d, tk, os⟩ := s
  have hT : (⟨hp, g, d, tk, os⟩ : Shared).TypeIs (.int n t) "int" := rfl
  have f3 := F.slot_int_float.lookup
  have f4 := F.slot_int_float.bind (.int n t)
  repeat (any_goals (first | assumption | ((with_reducible show wpAny _ _ (call (Value.builtin "int.__float__") _ _) _ _ _); exact call_meets F.slot_int_float hT F.entry_int_float (F.args_int_float_1 _) (meets_over c) ⟨hA, hh, fun h' tk' e hx => k h' tk' e hx⟩) | wp_step))

theorem arg_fits {n : Int} {t : Tok} {Q : UInt64 → Shared → Prop} (c : ¬ Over n) (k : Q (Float64.ofInt n) { s with toks := s.toks + 1 }) :
    wpAny (model prog w) A (Builtin.Math.realArg (.int n t)) Q E s := by
  obtain ⟨hp, g, d, tk, os⟩ := s
  have hT : (⟨hp, g, d, tk, os⟩ : Shared).TypeIs (.int n t) "int" := rfl
  have f3 := F.slot_int_float.lookup
  have f4 := F.slot_int_float.bind (.int n t)
  repeat (any_goals (first | assumption | ((with_reducible show wpAny _ _ (call (Value.builtin "int.__float__") _ _) _ _ _); refine call_gives F.slot_int_float hT F.entry_int_float (F.args_int_float_1 _) (AutoIntG0.int___float___int_1 n t (fin_of_fits c)) ?_; dsimp only [Made.post]) | wp_step))

theorem isfinite_fits {n : Int} {t : Tok} {Q : Value → Shared → Prop} (c : ¬ Over n) (k : Q (.bool true) { s with toks := s.toks + 1 }) :
    wpAny (model prog w) A (call (.builtin "math.isfinite") [.int n t]) Q E s := by
  refine call_function_entry kind_isfinite plain_isfinite entry_isfinite (args_isfinite _) ?_
  show wpAny _ _ (Builtin.Math.realArg (.int n t) >>= _) _ _ s
  exact wpAny_bind (arg_fits c (wpAny_pure ⟨_, rfl, by rw [finite_ofInt c]; exact k⟩))

theorem isfinite_over {n : Int} {t : Tok} {e1 : Addr} {Q : Value → Shared → Prop} (c : Over n) (hA : A.handled = some (.ref e1)) (hh : Held s.heap e1)
    (k : ∀ h' tk e, Chained s.heap h' e "OverflowError" → E (.ref e) { s with heap := h', toks := tk }) :
    wpAny (model prog w) A (call (.builtin "math.isfinite") [.int n t]) Q E s := by
  refine call_function_entry kind_isfinite plain_isfinite entry_isfinite (args_isfinite _) ?_
  show wpAny _ _ (Builtin.Math.realArg (.int n t) >>= _) _ _ s
  exact wpAny_bind (arg_over c hA hh k)

theorem one_fits (b : Bool) : ¬ Over (if b = true then 1 else 0) := by
  cases b <;> decide +kernel

theorem isfinite_bool {b : Bool} {Q : Value → Shared → Prop} (k : ∀ tk, Q (.bool true) { s with toks := tk }) :
    wpAny (model prog w) A (call (.builtin "math.isfinite") [.bool b]) Q E s := by
  refine call_function_entry kind_isfinite plain_isfinite entry_isfinite (args_isfinite _) ?_
  show wpAny _ _ (Builtin.Math.realArg (.bool b) >>= _) _ _ s
  refine wpAny_bind ?_
  obtain ⟨hp, g, d, tk, os⟩ := s
  have hT : (⟨hp, g, d, tk, os⟩ : Shared).TypeIs (.bool b) "bool" := rfl
  have f3 := F.slot_bool_float.lookup
  have f4 := F.slot_bool_float.bind (.bool b)
  repeat (any_goals (first | assumption | ((with_reducible show wpAny _ _ (call (Value.builtin "int.__float__") _ _) _ _ _); refine call_gives F.slot_bool_float hT F.entry_int_float (F.args_int_float_1 _) (gives_int_float_bool b) ?_; dsimp only [Made.post]) | wp_step))
  exact ⟨_, rfl, by rw [finite_ofInt (one_fits b)]; exact k _⟩

theorem look_str : typeLookup (.type "str") "__float__" = pure none := am_miss_of_fast (by decide +kernel)
theorem look_str' : typeLookup (.type "str") "__index__" = pure none := am_miss_of_fast (by decide +kernel)
theorem look_none : typeLookup (.type "NoneType") "__float__" = pure none := am_miss_of_fast (by decide +kernel)
theorem look_none' : typeLookup (.type "NoneType") "__index__" = pure none := am_miss_of_fast (by decide +kernel)
theorem look_list : typeLookup (.type "list") "__float__" = pure none := am_miss_of_fast (by decide +kernel)
theorem look_list' : typeLookup (.type "list") "__index__" = pure none := am_miss_of_fast (by decide +kernel)

theorem arg_str {x : Str} {t : Tok} {e1 : Addr} {Q : UInt64 → Shared → Prop} (hA : A.handled = some (.ref e1)) (hh : Held s.heap e1)
    (k : ∀ h' tk e, Chained s.heap h' e "TypeError" → E (.ref e) { s with heap := h', toks := tk }) :
    wpAny (model prog w) A (Builtin.Math.realArg (.str x t)) Q E s := by
  obtain ⟨hp, g, d, tk, os⟩ := s
  have hT : (⟨hp, g, d, tk, os⟩ : Shared).TypeIs (.str x t) "str" := rfl
  have f3 := look_str
  have f4 := look_str'
  repeat (any_goals (first | assumption | wp_step))
  exact text_chained plainExc_TypeError hA hh k (by decide +kernel)

theorem arg_none {e1 : Addr} {Q : UInt64 → Shared → Prop} (hA : A.handled = some (.ref e1)) (hh : Held s.heap e1)
    (k : ∀ h' tk e, Chained s.heap h' e "TypeError" → E (.ref e) { s with heap := h', toks := tk }) :
    wpAny (model prog w) A (Builtin.Math.realArg .none) Q E s := by
  obtain ⟨hp, g, d, tk, os⟩ := s
  have hT : (⟨hp, g, d, tk, os⟩ : Shared).TypeIs .none "NoneType" := rfl
  have f3 := look_none
  have f4 := look_none'
  repeat (any_goals (first | assumption | wp_step))
  exact text_chained plainExc_TypeError hA hh k (by decide +kernel)

theorem arg_list {a : Addr} {xs : Array Value} {n : Nat} {sl : Array (Option Value)} {e1 : Addr} {Q : UInt64 → Shared → Prop} (hx : s.heap.get? a = some { cls := .type "list", dict := none, data := .seq xs n, slots := sl })
    (hA : A.handled = some (.ref e1)) (hh : Held s.heap e1)
    (k : ∀ h' tk e, Chained s.heap h' e "TypeError" → E (.ref e) { s with heap := h', toks := tk }) :
    wpAny (model prog w) A (Builtin.Math.realArg (.ref a)) Q E s := by
  obtain ⟨hp, g, d, tk, os⟩ := s
  have hT : (⟨hp, g, d, tk, os⟩ : Shared).TypeIs (.ref a) "list" := ⟨_, hx, rfl⟩
  have f3 := look_list
  have f4 := look_list'
  repeat (any_goals (first | assumption | wp_step))
  exact text_chained plainExc_TypeError hA hh k (by decide +kernel)

/-- math.isfinite of what is no number, while e1 is being handled -/
theorem isfinite_no {v : Value} {e1 : Addr} {Q : Value → Shared → Prop} (hA : A.handled = some (.ref e1)) (hh : Held s.heap e1)
    (hv : (∃ x t, v = .str x t) ∨ v = .none ∨ ∃ a xs n sl, v = .ref a ∧ s.heap.get? a = some { cls := .type "list", dict := none, data := .seq xs n, slots := sl })
    (k : ∀ h' tk e, Chained s.heap h' e "TypeError" → E (.ref e) { s with heap := h', toks := tk }) :
    wpAny (model prog w) A (call (.builtin "math.isfinite") [v]) Q E s := by
  refine call_function_entry kind_isfinite plain_isfinite entry_isfinite (args_isfinite _) ?_
  show wpAny _ _ (Builtin.Math.realArg v >>= _) _ _ s
  refine wpAny_bind ?_
  rcases hv with ⟨x, t, rfl⟩ | rfl | ⟨a, xs, n, sl, rfl, hx⟩
  · exact arg_str hA hh k
  · exact arg_none hA hh k
  · exact arg_list hx hA hh k

end

/-- an exception in hand: its traceback's head bears fl, its context is none -/
def Bare (h B : Heap) (e : Addr) (cls fl : Value) : Prop :=
  ∃ oe vs T oT ts, h.get? e = some oe ∧ oe.cls = cls ∧ oe.data = .fields vs ∧ vs[2]? = some .none ∧ vs[1]? = some (.ref T) ∧ B.get? T = none ∧ T ≠ e ∧ h.get? T = some oT ∧ oT.data = .fields ts ∧ ts[3]? = some fl

theorem Bare.held {h B : Heap} {e : Addr} {cls fl : Value} (x : Bare h B e cls fl) : Held h e := by
  obtain ⟨oe, vs, T, oT, ts, he, hc, hd, h2, _⟩ := x
  exact ⟨oe, vs, he, hd, h2⟩
theorem Bare.cls {h B : Heap} {e : Addr} {cls fl : Value} (x : Bare h B e cls fl) : ∃ ob, h.get? e = some ob ∧ ob.cls = cls := by
  obtain ⟨oe, vs, T, oT, ts, he, hc, hd, h2, _⟩ := x
  exact ⟨oe, he, hc⟩

section
variable {M : Model} {A : Around} {E : Value → Shared → Prop} {s : Shared} {B : Heap} {env : Env} {outer l : List Env} {L e : Addr} {oe : Obj} {vs : Array Value} {Q : Unit → Shared → Prop}

theorem note_first (hfr : A.frames = some (env :: outer)) (hl : s.heap.FunFrames B (env :: outer)) (hf : env.frame = some L)
    (he : s.heap.get? e = some oe) (hkb : B.StaysIn s.heap) (hen : B.get? e = none) (hd : oe.data = .fields vs) (h1 : vs[1]? = some .none) (h2 : vs[2]? = some .none)
    (k : ∀ h', B.StaysIn h' → h'.FunFrames B (env :: outer) → Bare h' B e oe.cls (rawInt L) → s.heap.UpToSlots h' → Q () { s with heap := h' }) :
    wpAny M A (noteFrame (.ref e) env) Q E s := by
  have hsz : 1 < vs.size := (Array.getElem?_eq_some_iff.mp h1).1
  unfold noteFrame
  simp only [hf]
  refine wpAny_bind (wpAny_field he hd h1 ?_)
  rw [if_neg (by decide)]
  have hene : e ∉ (env :: outer).filterMap (·.frame) := fun hm => by
    obtain ⟨_, o, ho, hnf⟩ := hl.mem hm
    rw [he] at ho
    cases ho
    exact hnf vs hd
  refine wpAny_bind (wpAny_frameOf_fun hfr hl hf fun h₁ hs₁ => wpAny_bind (wpAny_entryPlaceOf fun pl hpl => ?_))
  unfold EntryCells.newEntry newFields
  refine wpAny_bind (wpAny_newObj_type ?_ (hpl.sizeOk5 _ _ _ _ _))
  have he₁ : h₁.get? e = some oe := (hs₁.2.1 e hene).trans he
  have kb₁ : B.StaysIn h₁ := fun b o hb => (hs₁.2.1 b fun hm => by rw [(hl.mem hm).1] at hb; cases hb).trans (hkb b o hb)
  generalize htb : ({ cls := .type "traceback", dict := none, data := .fields ([Value.none, .ref L, .none, rawInt L, .none] ++ (if pl.isEmpty then List.replicate 6 Value.none else pl)).toArray } : Obj) = tb
  have he₂ := Heap.get?_push_of_some (h := h₁) tb he₁
  refine wpAny_setField he₂ hd hsz (k _ ?_ ?_ ?_ ?_)
  all_goals
    have hTe : h₁.objs.size ≠ e := Nat.ne_of_gt (Heap.lt_size he₁)
    have hd₃ := Obj.data_mapFields hd (·.setIfInBounds 1 (Value.ref h₁.objs.size))
    have he₃ := Heap.get?_update_self (Obj.mapFields (·.setIfInBounds 1 (Value.ref h₁.objs.size))) he₂ (Obj.isFreed_of_fields hd₃)
    have hT₃ := (Heap.get?_update_other (h₁.push tb) (Obj.mapFields (·.setIfInBounds 1 (Value.ref h₁.objs.size))) (Ne.symm hTe)).trans (Heap.get?_push_size h₁ (by rw [← htb]; rfl))
    have keep : ∀ b o, b ≠ e → h₁.get? b = some o → ((h₁.push tb).update e (Obj.mapFields (·.setIfInBounds 1 (Value.ref h₁.objs.size)))).get? b = some o := fun b o hbe hb => by
      rw [Heap.get?_update_other _ _ (Ne.symm hbe)]
      exact Heap.get?_push_of_some _ hb
    have noRecord : ∀ b o, s.heap.get? b = some o → (∀ vs, o.data ≠ .fields vs) → b ≠ e := fun b o hb hnf q => by
      rw [q, he] at hb
      cases hb
      exact hnf vs hd
  · exact fun b o hbo => keep b o (fun q => by rw [q, hen] at hbo; cases hbo) (kb₁ b o hbo)
  · refine hl.of_keeps fun b o hb hnf => ?_
    obtain ⟨sl, hs⟩ := hs₁.2.2 b o hb
    exact ⟨_, keep b _ (noRecord b o hb hnf) hs, rfl⟩
  · refine ⟨_, _, h₁.objs.size, _, _, he₃, Obj.cls_mapFields _ _, hd₃, by rw [Array.getElem?_setIfInBounds_ne (by decide)]; exact h2, by simp [hsz], kb₁.fresh, hTe, hT₃, by rw [← htb], ?_⟩
    rfl
  · intro b o hb hnf
    obtain ⟨sl, hs⟩ := hs₁.2.2 b o hb
    exact ⟨sl, keep b _ (noRecord b o hb hnf) hs⟩

theorem land_bare {cls fl : Value} (hkb : B.StaysIn s.heap) (hl : s.heap.FunFrames B l) (ht : Bare s.heap B e cls fl)
    (k : ∀ h', B.StaysIn h' → h'.FunFrames B l → Bare h' B e cls .none → s.heap.UpToSlots h' → Q () { s with heap := h' }) :
    wpAny M A (setFlight (.ref e) none) Q E s := by
  obtain ⟨oe, vs, T, oT, ts, he, hcls, hd, h2, h1, hnT, hTe, hT, hdT, h3⟩ := ht
  have hsz3 : 3 < ts.size := (Array.getElem?_eq_some_iff.mp h3).1
  have other : ∀ b, b ≠ T → (s.heap.update T (Obj.mapFields (·.setIfInBounds 3 Value.none))).get? b = s.heap.get? b := fun b hb => Heap.get?_update_other _ _ (Ne.symm hb)
  have noRecord : ∀ b o, s.heap.get? b = some o → (∀ vs, o.data ≠ .fields vs) → b ≠ T := fun b o hb hnf q => by
    rw [q, hT] at hb
    cases hb
    exact hnf ts hdT
  refine wpAny_setFlight_none he hd h1 hT hdT hsz3 (k _ (fun b o hbo => (other b fun q => by rw [q, hnT] at hbo; cases hbo).trans (hkb b o hbo))
    (hl.of_keeps fun b o hb hnf => ⟨o, (other b (noRecord b o hb hnf)).trans hb, rfl⟩) ?_ fun b o hb hnf => ⟨o.slots, (other b (noRecord b o hb hnf)).trans hb⟩)
  exact ⟨oe, vs, T, _, _, (other e (Ne.symm hTe)).trans he, hcls, hd, h2, h1, hnT, hTe, Heap.get?_update_self _ hT (Obj.isFreed_of_fields (Obj.data_mapFields hdT _)), Obj.data_mapFields hdT _, by simp [hsz3]⟩
end

inductive Out where
  | ok (b : Bool)
  | bad (X : String)

/-- the values that are handed in, and what comes of each -/
inductive Kind (B : Heap) : Value → Out → Prop where
  | fits {n : Int} {t : Tok} : ¬ Over n → Kind B (.int n t) (.ok true)
  | over {n : Int} {t : Tok} : Over n → Kind B (.int n t) (.bad "OverflowError")
  | bool {b : Bool} : Kind B (.bool b) (.ok true)
  | float {x : UInt64} {t : Tok} : Kind B (.float x t) (.ok (Float64.isFinite x))
  | str {x : Str} {t : Tok} : Kind B (.str x t) (.bad "TypeError")
  | none : Kind B .none (.bad "TypeError")
  | list {a : Addr} {xs : Array Value} {n : Nat} {sl : Array (Option Value)} : B.get? a = some { cls := .type "list", dict := Option.none, data := .seq xs n, slots := sl } → Kind B (.ref a) (.bad "TypeError")

def good (X : String) : Prop := PlainExc X ∧ subB X (.type "BaseException") = some true

section
variable {prog : Program} {w : World} {A : Around} {E : Value → Shared → Prop} {s : Shared} {B : Heap}

theorem meth_kind {v : Value} {o : Out} {Q : Value × List Value → Shared → Prop} {pl : Sem Bool} (hk : Kind B v o) (hB : B.StaysIn s.heap) (hA : A.handled = none)
    (h : ∀ h' tk e, Heap.NewAttrErr s.heap h' e v "is_finite" → E (.ref e) { s with heap := h', toks := tk }) :
    wpAny (model prog w) A (getMethod v "is_finite" pl) Q E s := by
  cases hk with
  | fits c => exact meth_int hA h
  | over c => exact meth_int hA h
  | bool => exact meth_bool hA h
  | float => exact meth_float hA h
  | str => exact meth_str hA h
  | none => exact meth_none hA h
  | list hx => exact meth_list (hB _ _ hx) hA h

theorem fin_kind {v : Value} {o : Out} {e1 : Addr} {Q : Value → Shared → Prop} (hk : Kind B v o) (hB : B.StaysIn s.heap) (hA : A.handled = some (.ref e1)) (hh : Held s.heap e1)
    (hok : ∀ b, o = .ok b → ∀ tk, Q (.bool b) { s with toks := tk })
    (hbad : ∀ X, o = .bad X → ∀ h' tk e, Chained s.heap h' e X → E (.ref e) { s with heap := h', toks := tk }) :
    wpAny (model prog w) A (call (.builtin "math.isfinite") [v]) Q E s := by
  cases hk with
  | fits c => exact isfinite_fits c (hok _ rfl _)
  | over c => exact isfinite_over c hA hh (hbad _ rfl)
  | bool => exact isfinite_bool (hok _ rfl)
  | float => exact call_isfinite_float (hok _ rfl s.toks)
  | str => exact isfinite_no hA hh (.inl ⟨_, _, rfl⟩) (hbad _ rfl)
  | none => exact isfinite_no hA hh (.inr (.inl rfl)) (hbad _ rfl)
  | list hx => exact isfinite_no hA hh (.inr (.inr ⟨_, _, _, _, rfl, hB _ _ hx⟩)) (hbad _ rfl)
end

section
variable {M : Model} {A : Around} {E : Value → Shared → Prop} {s : Shared} {B : Heap} {env : Env} {l : List Env} {L e : Addr} {cls a0 : Value}

/-- behind a handler's own activation the exception flies in this frame -/
theorem came_back (hf : env.frame = some L) (hh : Heap.HeldW B l e cls a0 L s.heap)
    (k : ∀ h', Heap.HeldW B l e cls a0 L h' → s.heap.UpToSlots h' → E (.ref e) { s with heap := h' }) : cameBackBy M A env E (.ref e) s := by
  obtain ⟨hkb, hen, hl, oe, vs, T, oT, ts, he, hcls, hd, h1, hnT, hTe, hT, hdT, h3⟩ := hh
  have hsz3 : 3 < ts.size := (Array.getElem?_eq_some_iff.mp h3).1
  unfold cameBackBy
  refine wpAny_bind (wpAny_field he hd h1 ?_)
  rw [if_neg (show ¬ ((Value.ref T == Value.none) = true) from by simp)]
  unfold setFlight
  first
    | refine wpAny_bind (wpAny_field he hd h1 ?_)
    | refine wpAny_bind (wpAny_pure (wpAny_bind (wpAny_field he hd h1 ?_)))
  rw [if_pos (show (Value.ref T != Value.none) = true from by simp), hf]
  have other : ∀ b, b ≠ T → (s.heap.update T (Obj.mapFields (·.setIfInBounds 3 (rawInt L)))).get? b = s.heap.get? b := fun b hb => Heap.get?_update_other _ _ (Ne.symm hb)
  have noRecord : ∀ b o, s.heap.get? b = some o → (∀ vs, o.data ≠ .fields vs) → b ≠ T := fun b o hb hnf q => by
    rw [q, hT] at hb
    cases hb
    exact hnf ts hdT
  refine wpAny_setField hT hdT hsz3 (k _ ⟨fun b o hbo => (other b fun q => by rw [q, hnT] at hbo; cases hbo).trans (hkb b o hbo), hen,
    hl.of_keeps fun b o hb hnf => ⟨o, (other b (noRecord b o hb hnf)).trans hb, rfl⟩, ?_⟩ fun b o hb hnf => ⟨o.slots, (other b (noRecord b o hb hnf)).trans hb⟩)
  exact ⟨oe, vs, T, _, _, (other e (Ne.symm hTe)).trans he, hcls, hd, h1, hnT, hTe, Heap.get?_update_self _ hT (Obj.isFreed_of_fields (Obj.data_mapFields hdT _)), Obj.data_mapFields hdT _, by simp [hsz3]⟩

/-- the first look at an exception that was raised while another was in hand -/
theorem note_chained {outer : List Env} {h : Heap} {X : String} {Q : Unit → Shared → Prop} (hfr : A.frames = some (env :: outer)) (hl : h.FunFrames B (env :: outer)) (hf : env.frame = some L) (hkb : B.StaysIn h)
    (hx : Chained h s.heap e X)
    (k : ∀ h' a0, Heap.HeldW B (env :: outer) e (.type X) a0 L h' → h.UpToSlots h' → Q () { s with heap := h' }) : wpAny M A (noteFrame (.ref e) env) Q E s := by
  obtain ⟨ob, t, c, he, hcls, hd⟩ := hx.there
  have hen : B.get? e = none := by
    cases q : B.get? e with
    | none => rfl
    | some o => have := hkb _ _ q; rw [hx.new] at this; cases this
  unfold noteFrame
  simp only [hf]
  refine wpAny_bind (wpAny_field he hd (x := .none) rfl ?_)
  rw [if_neg (by decide)]
  refine wpAny_entryW (a0 := t) hfr (hl.of_keeps fun b o hb _ => ⟨o, hx.keeps b o hb, rfl⟩) hf he (fun b o hb => hx.keeps b o (hkb b o hb)) hen hd (by show 1 < 6; decide) rfl fun h' hN => ?_
  obtain ⟨k1, k2, k3, k4⟩ := hN
  rw [hcls] at k3
  exact k h' t ⟨k1, hen, k2, k3⟩ ((Heap.UpToSlots.of_keeps hx.keeps).trans k4)
end

/-- what of the module's names a called def reads -/
structure Names (h₀ : Heap) (mg mb : Str → Option Value) : Prop where
  g : h₀.Ns mainGlobals mg
  b : h₀.Ns builtinsNs mb
  att : mg "AttributeError" = none ∧ mb "AttributeError" = some (.type "AttributeError")
  ovf : mg "OverflowError" = none ∧ mb "OverflowError" = some (.type "OverflowError")
  typ : mg "TypeError" = none ∧ mb "TypeError" = some (.type "TypeError")
  isf : mg "isfinite" = some (.builtin "math.isfinite")

section
variable {prog : Program} {w : World} {A : Around} {s : Shared} {B h₀ : Heap} {l : List Env} {mg mb m : Str → Option Value} {name : Str} {scope : Scope} {L a : Addr} {cd : Value} {v : Value} {o : Out}

theorem meth_call {E : Value → Shared → Prop} {x : Str} {name : Str} {p apos pos : Pos} {env : Env} {Q : Value → Shared → Prop}
    (h : wpAny (model prog w) A (eval (.Name x p) env) (fun ov s₁ => ∀ pl, wpAny (model prog w) A (getMethod ov name pl) (fun _ _ => False) E s₁) E s) :
    wpAny (model prog w) A (eval (.Call (.Attribute (.Name x p) name apos) [] [] pos) env) Q E s := by
  rw [arm_eval_Call]
  refine wpAny_bind (m := eval (.Name x p) env) (wpAny_mono h (fun ov s₁ h₁ => ?_) fun _ _ x => x)
  refine wpAny_bind (wpAny_standAt ?_)
  unfold methodCall
  exact wpAny_bind (wpAny_holding (wpAny_mono (h₁ _) (fun _ _ f => f.elim) fun _ _ x => x))

theorem fin_body {p1 p2 p3 p4 p5 p6 p7 p8 p9 p10 p11 : Pos} {Qf : Flow → Shared → Prop} {Ef : Value → Shared → Prop}
    (N : Names h₀ mg mb) (hk : scope.kind = .function) (kx : (envOf name scope L a cd).kindOf "x" = some .local) (ka : (envOf name scope L a cd).kindOf "AttributeError" = some .globalImplicit) (ki : (envOf name scope L a cd).kindOf "isfinite" = some .globalImplicit)
    (hA : A.handled = none) (hfr : A.frames = some l) (F : Fr h₀ L s.heap m) (hx : m "x" = some v)
    (hst : h₀.StaysIn B) (hkb : B.StaysIn s.heap) (hl : s.heap.FunFrames B (envOf name scope L a cd :: l)) (hv : Kind B v o)
    (hok : ∀ b, o = .ok b → ∀ h' tk, B.StaysIn h' → h'.FunFrames B (envOf name scope L a cd :: l) → s.heap.UpToSlots h' → Qf (.ret (.bool b)) { s with heap := h', toks := tk })
    (hbad : ∀ X, o = .bad X → ∀ h' tk e a0, Heap.HeldW B (envOf name scope L a cd :: l) e (.type X) a0 L h' → s.heap.UpToSlots h' → Ef (.ref e) { s with heap := h', toks := tk }) :
    wpAny (model prog w) (A.deeper (envOf name scope L a cd)) (execs [.Try [.Return (some (.Call (.Attribute (.Name "x" p1) "is_finite" p2) [] [] p3)) p4]
      [.ExceptHandler (some (.Name "AttributeError" p5)) none [.Return (some (.Call (.Name "isfinite" p6) [.Name "x" p7] [] p8)) p9] p10] [] [] p11] (envOf name scope L a cd)) Qf Ef s := by
  have hfr' : (A.deeper (envOf name scope L a cd)).frames = some (envOf name scope L a cd :: l) := Around.frames_deeper hfr
  refine wpAny_execs_cons (wpAny_Try_except (wpAny_execs_cons (wpAny_Return_some (meth_call (ld F hx (fun pl => ?_) hk kx)))))
  refine meth_kind hv hkb hA fun h1 tk1 e1 x1 => ?_
  obtain ⟨t1, u1, g1⟩ := x1.there
  have en1 : B.get? e1 = none := by
    cases q : B.get? e1 with
    | none => rfl
    | some ob => have := hkb _ _ q; rw [x1.new] at this; cases this
  -- the first look at e1
  refine note_first (B := B) hfr' (hl.of_keeps fun b ob hb _ => ⟨ob, x1.keeps b ob hb, rfl⟩) rfl g1 (fun b ob hb => x1.keeps b ob (hkb b ob hb)) en1 rfl rfl rfl fun h2 k2 l2 b2 u2 => ?_
  refine land_bare k2 l2 b2 fun h3 k3 l3 b3 u3 => ?_
  have u03 : s.heap.UpToSlots h3 := ((Heap.UpToSlots.of_keeps x1.keeps).trans u2).trans u3
  have F3 : Fr h₀ L h3 m := ⟨u03.ns F.ns, fun b ob hb => k3 b ob (hst b ob hb), F.above⟩
  refine wpAny_handleBy_builtin (X := "AttributeError") (T := "AttributeError") (b := true) (isSubtype_of_subB (by decide +kernel)) (isSubtype_of_subB (by decide +kernel)) (isSubtype_of_subB (by decide +kernel)) ?_
  refine ld_builtin_at F3 N.g N.att.1 N.b N.att.2 ⟨rfl, b3.cls, ?_⟩ hk ka
  rw [if_pos rfl]
  refine land_bare k3 l3 b3 fun h4 k4 l4 b4 u4 => ?_
  have u04 : s.heap.UpToSlots h4 := u03.trans u4
  have F4 : Fr h₀ L h4 m := ⟨u04.ns F.ns, fun b ob hb => k4 b ob (hst b ob hb), F.above⟩
  refine wpAny_execs_cons (wpAny_Return_some (Call_ (ld_global_at F4 N.g N.isf (callWith_builtin1 (args_cons (ld F4 hx (args_nil ?_) hk kx))) hk ki)))
  refine fin_kind hv k4 rfl b4.held (fun b e tk => hok b e h4 tk k4 l4 u04) fun X e h5 tk5 e2 x5 => ?_
  refine note_chained (B := B) (by exact hfr') l4 rfl k4 x5 fun h6 a0 w6 u6 => ?_
  exact came_back rfl w6 fun h7 w7 u7 => hbad X e h7 tk5 e2 a0 w7 ((u04.trans u6).trans u7)
end

/-- the shape of a def that asks its argument's own method first, and math's function then -/
abbrev asks (p1 p2 p3 p4 p5 p6 p7 p8 p9 p10 p11 : Pos) : List Stmt := [.Try [.Return (some (.Call (.Attribute (.Name "x" p1) "is_finite" p2) [] [] p3)) p4]
  [.ExceptHandler (some (.Name "AttributeError" p5)) none [.Return (some (.Call (.Name "isfinite" p6) [.Name "x" p7] [] p8)) p9] p10] [] [] p11]

/-- a def as the heap bears it: its binds, its names' kinds -/
structure Def1 (h₀ : Heap) (f : Addr) (x : Str) (name : Str) (params : Arguments) (body : List Stmt) (scope : Scope) (pm doc cd : Value) : Prop where
  at_ : ∃ o, h₀.get? f = some o ∧ o.data = .func (docDef name params body scope pm cd doc)
  code : h₀.CodeRec cd name
  bind : ∀ v, bindArgs (docDef name params body scope pm cd doc) ⟨[v], []⟩ = pure [(x, v)]
  loc : scope.names.lookup x = some .local
  kind : scope.kind = .function
  co : scope.isCoroutine = false
  gen : scope.isGenerator = false
  cell : ∀ y ∈ scope.names, y.2 ≠ .cell

section
variable {prog : Program} {w : World} {A : Around} {s : Shared} {B h₀ : Heap} {l : List Env} {mg mb m : Str → Option Value} {name : Str} {scope : Scope} {L a f : Addr} {cd pm doc : Value} {params : Arguments} {v : Value} {o : Out} {x : Str}

/-- a call of such a def: what its body shows is shown of the call -/
theorem call1 {body : List Stmt} {Q : Value → Shared → Prop} {E : Value → Shared → Prop} (D : Def1 h₀ f x name params body scope pm doc cd) (hlim : h₀.NoLimit)
    (hroom : A.depth < recursionLimit) (hge : h₀.objs.size ≤ s.heap.objs.size) (hst : h₀.StaysIn B) (hkb : B.StaysIn s.heap) (hl : s.heap.FunFrames B l)
    (h : ∀ h₁ tk L, Fr h₀ L h₁ (fun y => [(x, v)].reverse.lookup y) → B.StaysIn h₁ → h₁.FunFrames B (envOf name scope L f cd :: l) → s.heap.UpToSlots h₁ →
      wpAny (model prog w) (A.deeper (envOf name scope L f cd)) (execs body (envOf name scope L f cd))
        (fun fl s' => Q (match fl with | .ret v => v | _ => .none) s')
        (fun e s' => wpAny (model prog w) (A.deeper (envOf name scope L f cd)) (leaving (envOf name scope L f cd) e) (fun _ s'' => E e s'') (fun e' s'' => E e' s'') s')
        { s with heap := h₁, toks := tk }) :
    wpAny (model prog w) A (call (.ref f) [v]) Q E s := by
  obtain ⟨of, g1, g2⟩ := D.at_
  have st : ∀ b ob, h₀.get? b = some ob → s.heap.get? b = some ob := fun b ob q => hkb b ob (hst b ob q)
  refine wpAny_call (call_plain hroom (st _ _ g1) g2 (hlim.keeps st) (D.code.keeps st) (D.bind v) ?_ (fun h₁ F₁ => ?_) D.co D.gen D.kind D.cell)
  · intro y hy
    rcases List.mem_cons.mp hy with rfl | hy
    · exact D.loc
    · exact nomatch hy
  · have hnL : B.get? s.heap.objs.size = none := by
      cases q : B.get? s.heap.objs.size with
      | none => rfl
      | some ob => exact absurd (Heap.lt_size (hkb _ _ q)) (Nat.lt_irrefl _)
    refine h h₁ _ s.heap.objs.size ⟨F₁.ns, fun b ob q => F₁.keep b ob (st b ob q), hge⟩ (fun b ob q => F₁.keep b ob (hkb b ob q)) ?_ (Heap.UpToSlots.of_keeps F₁.keep)
    refine Heap.FunFrames.cons ?_ rfl F₁.ns hnL (hl.of_keeps fun b ob hb _ => ⟨ob, F₁.keep b ob hb, rfl⟩)
    show scope.kind ≠ .module
    rw [D.kind]
    decide

theorem leave_held {env : Env} {e : Addr} {cls a0 : Value} {Q : Unit → Shared → Prop} {E : Value → Shared → Prop} (hf : env.frame = some L) (hh : Heap.HeldW B (env :: l) e cls a0 L s.heap)
    (k : ∀ h', Heap.FlyingW B l e cls a0 h' → s.heap.UpToSlots h' → Q () { s with heap := h' }) : wpAny (model prog w) A (leaving env (.ref e)) Q E s := by
  unfold leaving
  refine wpAny_bind (wpAny_noteFrame_againW hf hh.2.2.2 ?_)
  refine wpAny_landsW hh fun h' hfl u => ?_
  obtain ⟨k1, k2, ⟨_, _, k3⟩, k4⟩ := hfl
  exact k h' ⟨k1, k2, k3, k4⟩ u

theorem fin_call {p1 p2 p3 p4 p5 p6 p7 p8 p9 p10 p11 : Pos} {Q : Value → Shared → Prop} {E : Value → Shared → Prop}
    (D : Def1 h₀ f "x" name params (asks p1 p2 p3 p4 p5 p6 p7 p8 p9 p10 p11) scope pm doc cd) (hlim : h₀.NoLimit) (N : Names h₀ mg mb)
    (kx : ∀ L, (envOf name scope L f cd).kindOf "x" = some .local) (ka : ∀ L, (envOf name scope L f cd).kindOf "AttributeError" = some .globalImplicit) (ki : ∀ L, (envOf name scope L f cd).kindOf "isfinite" = some .globalImplicit)
    (hA : A.handled = none) (hfr : A.frames = some l) (hroom : A.depth < recursionLimit) (hge : h₀.objs.size ≤ s.heap.objs.size)
    (hst : h₀.StaysIn B) (hkb : B.StaysIn s.heap) (hl : s.heap.FunFrames B l) (hv : Kind B v o)
    (hok : ∀ b, o = .ok b → ∀ h' tk, B.StaysIn h' → h'.FunFrames B l → s.heap.UpToSlots h' → Q (.bool b) { s with heap := h', toks := tk })
    (hbad : ∀ X, o = .bad X → ∀ h' tk e a0, Heap.FlyingW B l e (.type X) a0 h' → s.heap.UpToSlots h' → E (.ref e) { s with heap := h', toks := tk }) :
    wpAny (model prog w) A (call (.ref f) [v]) Q E s := by
  refine call1 D hlim hroom hge hst hkb hl fun h₁ tk L F k1 l1 u1 => ?_
  refine fin_body N D.kind (kx L) (ka L) (ki L) hA hfr F (by rfl) hst k1 l1 hv (fun b e h' tk' k2 l2 u2 => ?_) fun X e h' tk' ex a0 w2 u2 => ?_
  · exact hok b e h' tk' k2 l2.2.2 (u1.trans u2)
  · exact leave_held rfl w2 fun h3 w3 u3 => hbad X e h3 tk' ex a0 w3 ((u1.trans u2).trans u3)

/-- the shape of a def that calls another in a try and answers a text for each of two exceptions -/
abbrev tells (p1 p2 p3 p4 p5 p6 p7 p8 p9 p10 p11 p12 p13 : Pos) (k1 k2 : Nat) : List Stmt := [.Try [.Return (some (.Call (.Name "_isfinite" p1) [.Name "value" p2] [] p3)) p4]
  [.ExceptHandler (some (.Name "OverflowError" p5)) none [.Return (some (.Constant (.str "past") k1 p6)) p7] p8,
   .ExceptHandler (some (.Name "TypeError" p9)) none [.Return (some (.Constant (.str "none") k2 p10)) p11] p12] [] [] p13]

theorem told_body {p1 p2 p3 p4 p5 p6 p7 p8 p9 p10 p11 p12 p13 : Pos} {c1 c2 : Nat} {Qf : Flow → Shared → Prop} {Ef : Value → Shared → Prop} {fF : Addr}
    (N : Names h₀ mg mb) (hfin : mg "_isfinite" = some (.ref fF)) (hat : ∃ ob fd, h₀.get? fF = some ob ∧ ob.data = .func fd)
    (hk : scope.kind = .function) (kx : (envOf name scope L a cd).kindOf "value" = some .local) (kf : (envOf name scope L a cd).kindOf "_isfinite" = some .globalImplicit)
    (ko : (envOf name scope L a cd).kindOf "OverflowError" = some .globalImplicit) (kt : (envOf name scope L a cd).kindOf "TypeError" = some .globalImplicit)
    (hfr : A.frames = some l) (F : Fr h₀ L s.heap m) (hx : m "value" = some v)
    (hst : h₀.StaysIn B) (hX : ∀ X, o = .bad X → X = "OverflowError" ∨ X = "TypeError")
    (hcall : ∀ {Q : Value → Shared → Prop} {E : Value → Shared → Prop},
      (∀ b, o = .ok b → ∀ h' tk, B.StaysIn h' → h'.FunFrames B (envOf name scope L a cd :: l) → s.heap.UpToSlots h' → Q (.bool b) { s with heap := h', toks := tk }) →
      (∀ X, o = .bad X → ∀ h' tk e a0, Heap.FlyingW B (envOf name scope L a cd :: l) e (.type X) a0 h' → s.heap.UpToSlots h' → E (.ref e) { s with heap := h', toks := tk }) →
      wpAny (model prog w) (A.deeper (envOf name scope L a cd)) (call (.ref fF) [v]) Q E s)
    (hok : ∀ b, o = .ok b → ∀ h' tk, B.StaysIn h' → h'.FunFrames B l → s.heap.UpToSlots h' → Qf (.ret (.bool b)) { s with heap := h', toks := tk })
    (hov : o = .bad "OverflowError" → ∀ h' tk t, B.StaysIn h' → h'.FunFrames B l → s.heap.UpToSlots h' → Qf (.ret (.str "past" t)) { s with heap := h', toks := tk })
    (hty : o = .bad "TypeError" → ∀ h' tk t, B.StaysIn h' → h'.FunFrames B l → s.heap.UpToSlots h' → Qf (.ret (.str "none" t)) { s with heap := h', toks := tk }) :
    wpAny (model prog w) (A.deeper (envOf name scope L a cd)) (execs (tells p1 p2 p3 p4 p5 p6 p7 p8 p9 p10 p11 p12 p13 c1 c2) (envOf name scope L a cd)) Qf Ef s := by
  have hfr' : (A.deeper (envOf name scope L a cd)).frames = some (envOf name scope L a cd :: l) := Around.frames_deeper hfr
  obtain ⟨ob, fd, g1, g2⟩ := hat
  refine wpAny_execs_cons (wpAny_Try_except (wpAny_execs_cons (wpAny_Return_some (Call_ (ld_global_at F N.g hfin (callWith_def (o := ob) (fd := fd) g2 (args_cons (ld F hx (args_nil ⟨F.keep _ _ g1, ?_⟩) hk kx))) hk kf)))))
  refine hcall (fun b e h' tk k1 l1 u1 => hok b e h' tk k1 l1.2.2 u1) fun X e h1 tk e2 a0 w1 u1 => ?_
  refine wpAny_looks_onW hfr' rfl w1 fun h2 w2 u2 => ?_
  refine wpAny_landsW w2 fun h3 w3 u3 => ?_
  have u03 : s.heap.UpToSlots h3 := (u1.trans u2).trans u3
  have F3 : Fr h₀ L h3 m := ⟨u03.ns F.ns, fun b ob hb => w3.1 b ob (hst b ob hb), F.above⟩
  rcases hX X e with rfl | rfl
  · refine wpAny_handleBy_builtin (X := "OverflowError") (T := "OverflowError") (b := true) (isSubtype_of_subB (by decide +kernel)) (isSubtype_of_subB (by decide +kernel)) (isSubtype_of_subB (by decide +kernel)) ?_
    refine ld_builtin_at F3 N.g N.ovf.1 N.b N.ovf.2 ⟨rfl, w3.there, ?_⟩ hk ko
    rw [if_pos rfl]
    refine wpAny_setFlight_noneW w3.1 w3.2.2.1 w3.2.2.2 fun h4 k4 l4 t4 u4 => ?_
    exact wpAny_execs_cons (wpAny_Return_some (wpAny_Constant_str (hov e h4 _ _ k4 l4.2.2 (u03.trans fun b o hb hn => ⟨o.slots, u4 b o hb hn⟩))))
  · refine wpAny_handleBy_builtin (X := "TypeError") (T := "OverflowError") (b := false) (isSubtype_of_subB (by decide +kernel)) (isSubtype_of_subB (by decide +kernel)) (isSubtype_of_subB (by decide +kernel)) ?_
    refine ld_builtin_at F3 N.g N.ovf.1 N.b N.ovf.2 ⟨rfl, w3.there, ?_⟩ hk ko
    rw [if_neg (by decide)]
    refine wpAny_handleBy_builtin (X := "TypeError") (T := "TypeError") (b := true) (isSubtype_of_subB (by decide +kernel)) (isSubtype_of_subB (by decide +kernel)) (isSubtype_of_subB (by decide +kernel)) ?_
    refine ld_builtin_at F3 N.g N.typ.1 N.b N.typ.2 ⟨rfl, w3.there, ?_⟩ hk kt
    rw [if_pos rfl]
    refine wpAny_setFlight_noneW w3.1 w3.2.2.1 w3.2.2.2 fun h4 k4 l4 t4 u4 => ?_
    exact wpAny_execs_cons (wpAny_Return_some (wpAny_Constant_str (hty e h4 _ _ k4 l4.2.2 (u03.trans fun b o hb hn => ⟨o.slots, u4 b o hb hn⟩))))

end

/-- the two defs and the names that they read, as the law's call finds them -/
structure Ready (h₀ : Heap) (mg mb : Str → Option Value) (fF fT : Addr) : Prop where
  names : Names h₀ mg mb
  nolimit : h₀.NoLimit
  fin : ∃ params scope pm doc cd p1 p2 p3 p4 p5 p6 p7 p8 p9 p10 p11, Def1 h₀ fF "x" "_isfinite" params (asks p1 p2 p3 p4 p5 p6 p7 p8 p9 p10 p11) scope pm doc cd ∧
    (∀ L, (envOf "_isfinite" scope L fF cd).kindOf "x" = some .local) ∧ (∀ L, (envOf "_isfinite" scope L fF cd).kindOf "AttributeError" = some .globalImplicit) ∧ (∀ L, (envOf "_isfinite" scope L fF cd).kindOf "isfinite" = some .globalImplicit)
  told : ∃ params scope pm doc cd p1 p2 p3 p4 p5 p6 p7 p8 p9 p10 p11 p12 p13 k1 k2, Def1 h₀ fT "value" "_law_told" params (tells p1 p2 p3 p4 p5 p6 p7 p8 p9 p10 p11 p12 p13 k1 k2) scope pm doc cd ∧
    (∀ L, (envOf "_law_told" scope L fT cd).kindOf "value" = some .local) ∧ (∀ L, (envOf "_law_told" scope L fT cd).kindOf "_isfinite" = some .globalImplicit) ∧
    (∀ L, (envOf "_law_told" scope L fT cd).kindOf "OverflowError" = some .globalImplicit) ∧ (∀ L, (envOf "_law_told" scope L fT cd).kindOf "TypeError" = some .globalImplicit)
  name : mg "_isfinite" = some (.ref fF)
  name' : mg "_law_told" = some (.ref fT)
  abs : mg "abs" = none ∧ mb "abs" = some (.builtin "abs")

/-- the names, as the written part of the heap bears them -/
structure NamesIn (K : Frag) (fF fT : Addr) : Prop where
  att : nsIn K mainGlobals "AttributeError" = some none
  ovf : nsIn K mainGlobals "OverflowError" = some none
  typ : nsIn K mainGlobals "TypeError" = some none
  abs : nsIn K mainGlobals "abs" = some none
  isf : nsIn K mainGlobals "isfinite" = some (some (.builtin "math.isfinite"))
  fin : nsIn K mainGlobals "_isfinite" = some (some (.ref fF))
  told : nsIn K mainGlobals "_law_told" = some (some (.ref fT))

/-- a def, as the written part bears it -/
structure DefIn (K : Frag) (f : Addr) (x : Str) (name : Str) (params : Arguments) (body : List Stmt) (scope : Scope) (pm doc cd : Value) : Prop where
  at_ : ∃ o, K.lookup f = some o ∧ o.data = .func (docDef name params body scope pm cd doc)
  code : codeIn K cd name = true
  bind : ∀ v, bindArgs (docDef name params body scope pm cd doc) ⟨[v], []⟩ = pure [(x, v)]
  loc : scope.names.lookup x = some .local
  kind : scope.kind = .function
  co : scope.isCoroutine = false
  gen : scope.isGenerator = false
  cell : ∀ y ∈ scope.names, y.2 ≠ .cell
theorem DefIn.def1 {K : Frag} {h₀ : Heap} {f : Addr} {x name : Str} {params : Arguments} {body : List Stmt} {scope : Scope} {pm doc cd : Value} (D : DefIn K f x name params body scope pm doc cd) (X : K.In h₀) :
    Def1 h₀ f x name params body scope pm doc cd where
  at_ := by
    obtain ⟨o, g1, g2⟩ := D.at_
    exact ⟨o, X _ _ g1, g2⟩
  code := codeRec_of X D.code
  bind := D.bind
  loc := D.loc
  kind := D.kind
  co := D.co
  gen := D.gen
  cell := D.cell

theorem boots : bootBuiltins "AttributeError" = some (.type "AttributeError") ∧ bootBuiltins "OverflowError" = some (.type "OverflowError") ∧ bootBuiltins "TypeError" = some (.type "TypeError") ∧ bootBuiltins "abs" = some (.builtin "abs") := by
  refine ⟨?_, ?_, ?_, ?_⟩ <;> decide +kernel

theorem ready_of {K : Frag} {h₀ : Heap} {p : Program} {loose : List Str} {mg mb : Str → Option Value} {fF fT : Addr} (X : K.In h₀) (T : TopRead p loose mg mb h₀) (N : NamesIn K fF fT)
    (hf : ∃ params scope pm doc cd p1 p2 p3 p4 p5 p6 p7 p8 p9 p10 p11, DefIn K fF "x" "_isfinite" params (asks p1 p2 p3 p4 p5 p6 p7 p8 p9 p10 p11) scope pm doc cd ∧
      (∀ L, (envOf "_isfinite" scope L fF cd).kindOf "x" = some .local) ∧ (∀ L, (envOf "_isfinite" scope L fF cd).kindOf "AttributeError" = some .globalImplicit) ∧ (∀ L, (envOf "_isfinite" scope L fF cd).kindOf "isfinite" = some .globalImplicit))
    (ht : ∃ params scope pm doc cd p1 p2 p3 p4 p5 p6 p7 p8 p9 p10 p11 p12 p13 k1 k2, DefIn K fT "value" "_law_told" params (tells p1 p2 p3 p4 p5 p6 p7 p8 p9 p10 p11 p12 p13 k1 k2) scope pm doc cd ∧
      (∀ L, (envOf "_law_told" scope L fT cd).kindOf "value" = some .local) ∧ (∀ L, (envOf "_law_told" scope L fT cd).kindOf "_isfinite" = some .globalImplicit) ∧
      (∀ L, (envOf "_law_told" scope L fT cd).kindOf "OverflowError" = some .globalImplicit) ∧ (∀ L, (envOf "_law_told" scope L fT cd).kindOf "TypeError" = some .globalImplicit)) :
    Ready h₀ mg mb fF fT where
  names := {
    g := T.g
    b := T.b
    att := ⟨mg_none_of X T.g N.att, (T.builtins _ (by decide)).trans boots.1⟩
    ovf := ⟨mg_none_of X T.g N.ovf, (T.builtins _ (by decide)).trans boots.2.1⟩
    typ := ⟨mg_none_of X T.g N.typ, (T.builtins _ (by decide)).trans boots.2.2.1⟩
    isf := mg_of X T.g N.isf }
  nolimit := T.nolimit
  fin := by
    obtain ⟨a1, a2, a3, a4, a5, p1, p2, p3, p4, p5, p6, p7, p8, p9, p10, p11, D, q⟩ := hf
    exact ⟨a1, a2, a3, a4, a5, p1, p2, p3, p4, p5, p6, p7, p8, p9, p10, p11, D.def1 X, q⟩
  told := by
    obtain ⟨a1, a2, a3, a4, a5, p1, p2, p3, p4, p5, p6, p7, p8, p9, p10, p11, p12, p13, k1, k2, D, q⟩ := ht
    exact ⟨a1, a2, a3, a4, a5, p1, p2, p3, p4, p5, p6, p7, p8, p9, p10, p11, p12, p13, k1, k2, D.def1 X, q⟩
  name := mg_of X T.g N.fin
  name' := mg_of X T.g N.told
  abs := ⟨mg_none_of X T.g N.abs, (T.builtins _ (by decide)).trans boots.2.2.2⟩

section
variable {prog : Program} {w : World} {E : Value → Shared → Prop} {Q : Value → Shared → Prop} {s : Shared} {h₀ : Heap} {mg mb m : Str → Option Value} {cn : Str} {cs : Scope} {L a fF fT : Addr} {ccd : Value} {news : List (Addr × Obj)} {v : Value} {o : Out}

theorem room1 {e : Env} : (callerA.deeper e).depth < recursionLimit := by
  show 1 + claimMargin + 1 < recursionLimit
  decide +kernel
theorem room2 {e e' : Env} : ((callerA.deeper e).deeper e').depth < recursionLimit := by
  show 1 + claimMargin + 1 + 1 < recursionLimit
  decide +kernel
theorem gone_stays {h : Heap} {L : Addr} : (TI.gone h [L]).StaysIn h := fun _ _ e => (TI.gone_some e).2
theorem base_gone (F : Fr h₀ L s.heap m) : h₀.StaysIn (TI.gone s.heap [L]) := fun b o e => by
  have hb : b ∉ [L] := fun hm => by
    rcases List.mem_cons.mp hm with rfl | hm
    · exact absurd (Nat.lt_of_lt_of_le (Heap.lt_size e) F.above) (Nat.lt_irrefl _)
    · exact nomatch hm
  rw [TI.gone_get hb]
  exact F.keep b o e
theorem frames_gone (F : Fr h₀ L s.heap m) (hk : cs.kind = .function) : s.heap.FunFrames (TI.gone s.heap [L]) [envOf cn cs L a ccd] := by
  refine Heap.FunFrames.cons ?_ rfl F.ns (TI.gone_none (List.mem_cons_self)) trivial
  show cs.kind ≠ .module
  rw [hk]
  decide
theorem fr_gone {h' : Heap} (F : Fr h₀ L s.heap m) (k : (TI.gone s.heap [L]).StaysIn h') (u : s.heap.UpToSlots h') : Fr h₀ L h' m :=
  ⟨u.ns F.ns, fun b o e => k b o (base_gone F b o e), F.above⟩
theorem news_gone {h' : Heap} (N : News h₀ L s.heap news) (k : (TI.gone s.heap [L]).StaysIn h') : News h₀ L h' news := fun p hp => by
  obtain ⟨x1, x2, x3⟩ := N p hp
  refine ⟨k _ _ ?_, x2, x3⟩
  rw [TI.gone_get (fun hm => by
    rcases List.mem_cons.mp hm with q | hm
    · exact x2 q
    · exact nomatch hm)]
  exact x1
theorem kind_gone (F : Fr h₀ L s.heap m) (hv : Kind s.heap v o) : Kind (TI.gone s.heap [L]) v o := by
  cases hv with
  | fits c => exact .fits c
  | over c => exact .over c
  | bool => exact .bool
  | float => exact .float
  | str => exact .str
  | none => exact .none
  | @list x xs n sl hx =>
    refine Kind.list (xs := xs) (n := n) (sl := sl) ?_
    · rw [TI.gone_get]
      · exact hx
      · intro hm
        rcases List.mem_cons.mp hm with rfl | hm
        · obtain ⟨ob, es, ep, ho, hd, _⟩ := F.ns
          rw [hx] at ho
          cases ho
          cases hd
        · exact nomatch hm

theorem fin_law {b : Bool} (R : Ready h₀ mg mb fF fT) (F : Fr h₀ L s.heap m) (N : News h₀ L s.heap news) (hk : cs.kind = .function) (hv : Kind s.heap v (.ok b))
    (k : ∀ h' tk, Fr h₀ L h' m → News h₀ L h' news → Q (.bool b) { s with heap := h', toks := tk }) :
    wpAny (model prog w) (callerA.deeper (envOf cn cs L a ccd)) (call (.ref fF) [v]) Q E s := by
  obtain ⟨_, _, _, _, _, _, _, _, _, _, _, _, _, _, _, _, D, kx, ka, ki⟩ := R.fin
  refine fin_call (A := callerA.deeper (envOf cn cs L a ccd)) (l := [envOf cn cs L a ccd]) (o := .ok b) D R.nolimit R.names kx ka ki rfl (Around.frames_deeper rfl) room1 (Nat.le_trans F.above (Nat.le_of_lt F.ns.lt)) (base_gone F) gone_stays (frames_gone F hk) (kind_gone F hv) ?_ ?_
  · intro b' e h' tk k1 _ u1
    cases e
    exact k h' tk (fr_gone F k1 u1) (news_gone N k1)
  · intro X e
    cases e

theorem bad_of {h : Heap} (hv : Kind h v o) : ∀ X, o = .bad X → X = "OverflowError" ∨ X = "TypeError" := by
  intro X e
  cases hv <;> cases e <;> first | exact .inl rfl | exact .inr rfl

theorem told_law (R : Ready h₀ mg mb fF fT) (F : Fr h₀ L s.heap m) (N : News h₀ L s.heap news) (hk : cs.kind = .function) (hv : Kind s.heap v o)
    (hok : ∀ b, o = .ok b → ∀ h' tk, Fr h₀ L h' m → News h₀ L h' news → Q (.bool b) { s with heap := h', toks := tk })
    (hov : o = .bad "OverflowError" → ∀ h' tk t, Fr h₀ L h' m → News h₀ L h' news → Q (.str "past" t) { s with heap := h', toks := tk })
    (hty : o = .bad "TypeError" → ∀ h' tk t, Fr h₀ L h' m → News h₀ L h' news → Q (.str "none" t) { s with heap := h', toks := tk }) :
    wpAny (model prog w) (callerA.deeper (envOf cn cs L a ccd)) (call (.ref fT) [v]) Q E s := by
  obtain ⟨_, _, _, _, _, _, _, _, _, _, _, _, _, _, _, _, _, _, _, _, D, kx, kf, ko, kt⟩ := R.told
  obtain ⟨_, _, _, _, _, _, _, _, _, _, _, _, _, _, _, _, D', kx', ka', ki'⟩ := R.fin
  refine call1 (l := [envOf cn cs L a ccd]) D R.nolimit room1 (Nat.le_trans F.above (Nat.le_of_lt F.ns.lt)) (base_gone F) gone_stays (frames_gone F hk) fun h₁ tk L₂ F₁ k1 l1 u1 => ?_
  have hat : ∃ ob fd, h₀.get? fF = some ob ∧ ob.data = .func fd := by
    obtain ⟨ob, g1, g2⟩ := D'.at_
    exact ⟨ob, _, g1, g2⟩
  refine told_body (l := [envOf cn cs L a ccd]) (B := TI.gone s.heap [L]) R.names R.name hat D.kind (kx L₂) (kf L₂) (ko L₂) (kt L₂) (Around.frames_deeper rfl) F₁ (by rfl) (base_gone F) (bad_of hv) ?_ ?_ ?_ ?_
  · intro Q' E' q1 q2
    exact fin_call D' R.nolimit R.names kx' ka' ki' rfl (Around.frames_deeper (Around.frames_deeper rfl)) room2 (Nat.le_trans F₁.above (Nat.le_of_lt F₁.ns.lt)) (base_gone F) k1 l1 (kind_gone F hv) q1 q2
  · intro b e h' tk' k2 l2 u2
    exact hok b e h' tk' (fr_gone F k2 (u1.trans u2)) (news_gone N k2)
  · intro e h' tk' t k2 l2 u2
    exact hov e h' tk' t (fr_gone F k2 (u1.trans u2)) (news_gone N k2)
  · intro e h' tk' t k2 l2 u2
    exact hty e h' tk' t (fr_gone F k2 (u1.trans u2)) (news_gone N k2)
end

/-- the edge, its size out of sight -/
structure IsEdge (K : Int) : Prop where
  eq : K = 2 ^ 1024 - 2 ^ 970

theorem IsEdge.over {K n : Int} (h : IsEdge K) : Over n ↔ (n ≤ -K ∨ K ≤ n) := by
  have e := h.eq
  have e2 : ((2 ^ 1024 - 2 ^ 970 : Nat) : Int) = 2 ^ 1024 - 2 ^ 970 := by
    rw [Int.ofNat_sub (Nat.pow_le_pow_right (by decide) (by decide))]
    simp
  rw [← e2] at e
  show 2 ^ 1024 - 2 ^ 970 ≤ n.natAbs ↔ _
  generalize (2 ^ 1024 - 2 ^ 970 : Nat) = k at e ⊢
  omega
theorem IsEdge.big {K : Int} (h : IsEdge K) : 1000 < K := by
  rw [h.eq]
  decide +kernel
theorem IsEdge.nat {K n : Int} (h : IsEdge K) (h1 : -K < n) (h2 : n < K) : n.natAbs < 2 ^ 1024 - 2 ^ 970 := by
  have q := h.over (n := n)
  by_cases c : Over n
  · have := q.mp c
    omega
  · exact Nat.lt_of_not_le c

section
variable {prog : Program} {w : World} {A : Around} {E : Value → Shared → Prop} {s : Shared} {Q : Value → Shared → Prop}

theorem edge_made {t u : Tok} (h : ∀ K, IsEdge K → 1000 < K → Q (.int K s.toks) { s with toks := s.toks + 1 }) :
    wpAny (model prog w) A (binaryOp .Sub (.int (2 ^ Int.toNat 1024) t) (.int (2 ^ Int.toNat 970) u)) Q E s :=
  sub_int (h _ ⟨by rfl⟩ (IsEdge.big ⟨by rfl⟩))

theorem div_fin {n d : Int} {t u : Tok} (hn : n.natAbs < 2 ^ 1024 - 2 ^ 970) (hd : d ≠ 0) (k : ∀ y, Float64.isFinite y = true → Q (.float y s.toks) { s with toks := s.toks + 1 }) :
    wpAny (model prog w) A (binaryOp .Div (.int n t) (.int d u)) Q E s := by
  have hf := frac_fin (sg := (decide (n < 0) != decide (d < 0))) (n := n.natAbs) (d := d.natAbs) (by omega) hn
  exact AutoIntOps.truediv_2 (by simpa using hd) (by rw [not_inf_of_finite hf]; decide) (k _ hf)

theorem abs_bool {b : Bool} (h : ∀ z u tk, 0 ≤ z → z ≤ 1 → Q (.int z u) { s with toks := tk }) :
    wpAny (model prog w) A (call (.builtin "abs") [.bool b]) Q E s := by
  refine call_function_entry kind_abs plain_abs entry_abs (args_abs _) ?_
  unfold Builtin.«abs»
  refine wpAny_bind (m := oneArg "abs" _) (wpAny_pure ?_)
  refine wpAny_bind (m := callSpecial? (.bool b) (Str.ofString "__abs__")) (wpAny_callSpecial?_slot (name := Str.ofString "__abs__") (T := "bool") rfl F.slot_bool_abs
    (wpAny_call_entry F.slot_bool_abs (T := "bool") rfl entry_int_abs ?_ (args_int_abs _)))
  obtain ⟨hp, g, d, tk, os⟩ := s
  cases b
  all_goals
    unfold Builtin.«int.__abs__»
    repeat (any_goals (first | assumption | wp_step))
    refine ⟨_, rfl, ?_⟩
    refine wpAny_pure ⟨_, rfl, ?_⟩
    exact h _ _ _ (by decide) (by decide)

theorem ints_at {vs : List Value} {ns : List Int} (h : IntsAre vs ns) : ∀ i : Nat, i < vs.length → ∃ z t, vs[i]? = some (.int z t) := by
  induction h with
  | nil => intro i hi; exact absurd hi (Nat.not_lt_zero _)
  | cons n t _ ih =>
    intro i hi
    cases i with
    | zero => exact ⟨n, t, rfl⟩
    | succ i => exact ih i (Nat.lt_of_succ_lt_succ hi)

theorem pick_int {value slice : PySem.Expr} {l : Addr} {vs : List Value} {ns : List Int} {k : Int} {u : Tok}
    (hl : s.heap.IsList l vs.toArray) (hi : IntsAre vs ns) (h0 : -(ns.length : Int) ≤ k) (h1 : k < ns.length) (h2 : ns.length ≤ 2 ^ 62)
    (hs : subscripted slice false (.ref l) (.int k u) = operate [.ref l, .int k u] (getItem (.ref l) (.int k u))) (h : ∀ z t, Q (.int z t) s) :
    wpAny (model prog w) A (subscriptTail value slice (.ref l) (.int k u)) Q E s := by
  have hlen : ns.length = vs.length := (IntsAre.length hi).symm
  have hsz : (vs.toArray).size = vs.length := List.size_toArray ..
  rcases Int.lt_or_le k 0 with c | c
  · obtain ⟨z, t, e⟩ := ints_at hi (k + vs.length).toNat (by omega)
    exact tail_any hl.typeIs slot_list_getitem.lookup (wpAny_getItem_list_neg hl c (by rw [hsz]; omega) (by omega) (by rw [hsz]; simpa using e) (h z t)) hs
  · obtain ⟨z, t, e⟩ := ints_at hi k.toNat (by omega)
    exact tail_any hl.typeIs slot_list_getitem.lookup (wpAny_getItem_list hl c (by omega) (by simpa using e) (h z t)) hs

end

section
variable {prog : Program} {w : World} {E : Value → Shared → Prop} {s : Shared} {h₀ : Heap} {mg mb m : Str → Option Value} {cn : Str} {cs : Scope} {L a fF fT : Addr} {ccd : Value} {news : List (Addr × Obj)} {v : Value} {o : Out}

/-- what is asked of a number's size, in the frame -/
structure Sized (K : Int) (v : Value) (o : Out) : Prop where
  out : o = .ok true ∨ o = .bad "OverflowError"
  kind : ∀ h, Kind h v o
  abs : ∀ {prog : Program} {w : World} {A : Around} {E : Value → Shared → Prop} {s : Shared} {Q : Value → Shared → Prop},
    (∀ z u tk, (o = .ok true ∧ z < K) ∨ (o = .bad "OverflowError" ∧ K ≤ z) → Q (.int z u) { s with toks := tk }) → wpAny (model prog w) A (call (.builtin "abs") [v]) Q E s

theorem sized_int {K : Int} (hE : IsEdge K) (n : Int) (t : Tok) : ∃ o, Sized K (.int n t) o := by
  by_cases c : Over n
  · refine ⟨_, .inr rfl, fun _ => .over c, fun h => call_abs_int fun u tk => h _ u tk (.inr ⟨rfl, ?_⟩)⟩
    have := hE.over.mp c
    have := hE.big
    clear c
    split <;> omega
  · refine ⟨_, .inl rfl, fun _ => .fits c, fun h => call_abs_int fun u tk => h _ u tk (.inl ⟨rfl, ?_⟩)⟩
    have q : ¬ (n ≤ -K ∨ K ≤ n) := fun x => c (hE.over.mpr x)
    have := hE.big
    clear c
    split <;> omega
theorem sized_bool {K : Int} (hE : IsEdge K) (b : Bool) : ∃ o, Sized K (.bool b) o := by
  refine ⟨_, .inl rfl, fun _ => .bool, fun h => abs_bool fun z u tk h0 h1 => h _ u tk (.inl ⟨rfl, ?_⟩)⟩
  have := hE.big
  omega

/-- the shape of a loop's body that asks of each number what its size tells -/
abbrev body1 (p1 p2 p3 p4 p5 p6 p7 p8 p9 p10 p11 p12 p13 p14 p15 p16 p17 p18 p19 p20 p21 p22 p23 p24 p25 p26 p27 p28 p29 : Pos) (k1 k2 k3 k4 : Nat) : List Stmt :=
  [.Assign [.Name "told" p1] (.Call (.Name "_law_told" p2) [.Name "value" p3] [] p4) p5,
   .If (.BoolOp .And [.Compare (.Call (.Name "abs" p6) [.Name "value" p7] [] p8) [.Lt] [.Name "edge" p9] p10, .Compare (.Name "told" p11) [.IsNot] [.Constant (.bool true) k1 p12] p13] p14)
     [.Return (some (.Constant (.bool false) k2 p15)) p16] [] p17,
   .If (.BoolOp .And [.Compare (.Call (.Name "abs" p18) [.Name "value" p19] [] p20) [.GtE] [.Name "edge" p21] p22, .Compare (.Name "told" p23) [.NotEq] [.Constant (.str "past") k3 p24] p25] p26)
     [.Return (some (.Constant (.bool false) k4 p27)) p28] [] p29]

theorem turn {K : Int} {tE : Tok} {Qf : Flow → Shared → Prop} {p1 p2 p3 p4 p5 p6 p7 p8 p9 p10 p11 p12 p13 p14 p15 p16 p17 p18 p19 p20 p21 p22 p23 p24 p25 p26 p27 p28 p29 : Pos} {k1 k2 k3 k4 : Nat}
    (R : Ready h₀ mg mb fF fT) (F : Fr h₀ L s.heap m) (N : News h₀ L s.heap news) (hk : cs.kind = .function)
    (kv : (envOf cn cs L a ccd).kindOf "value" = some .local) (ke : (envOf cn cs L a ccd).kindOf "edge" = some .local) (kt : (envOf cn cs L a ccd).kindOf "told" = some .local)
    (kf : (envOf cn cs L a ccd).kindOf "_law_told" = some .globalImplicit) (ka : (envOf cn cs L a ccd).kindOf "abs" = some .globalImplicit)
    (hv : m "value" = some v) (he : m "edge" = some (.int K tE)) (S : Sized K v o)
    (k : ∀ h' tk V, Fr h₀ L h' (fun y => if y = "told" then some V else m y) → News h₀ L h' news → Qf .next { s with heap := h', toks := tk }) :
    wpAny (model prog w) (callerA.deeper (envOf cn cs L a ccd)) (execs (body1 p1 p2 p3 p4 p5 p6 p7 p8 p9 p10 p11 p12 p13 p14 p15 p16 p17 p18 p19 p20 p21 p22 p23 p24 p25 p26 p27 p28 p29 k1 k2 k3 k4) (envOf cn cs L a ccd)) Qf E s := by
  obtain ⟨_, _, _, _, _, _, _, _, _, _, _, _, _, _, _, _, _, _, _, _, D, _⟩ := R.told
  obtain ⟨oT, g1, g2⟩ := D.at_
  -- what stands behind the call, one way for both
  have rest : ∀ h' tk V, Fr h₀ L h' m → News h₀ L h' news → ((o = .ok true ∧ V = .bool true) ∨ (o = .bad "OverflowError" ∧ ∃ t, V = .str "past" t)) →
      wpAny (model prog w) (callerA.deeper (envOf cn cs L a ccd)) (storeName (envOf cn cs L a ccd) "told" V) (fun _ s₁ => wpAny (model prog w) (callerA.deeper (envOf cn cs L a ccd)) (execs
      [.If (.BoolOp .And [.Compare (.Call (.Name "abs" p6) [.Name "value" p7] [] p8) [.Lt] [.Name "edge" p9] p10, .Compare (.Name "told" p11) [.IsNot] [.Constant (.bool true) k1 p12] p13] p14)
         [.Return (some (.Constant (.bool false) k2 p15)) p16] [] p17,
       .If (.BoolOp .And [.Compare (.Call (.Name "abs" p18) [.Name "value" p19] [] p20) [.GtE] [.Name "edge" p21] p22, .Compare (.Name "told" p23) [.NotEq] [.Constant (.str "past") k3 p24] p25] p26)
         [.Return (some (.Constant (.bool false) k4 p27)) p28] [] p29]
      (envOf cn cs L a ccd)) Qf E s₁) E { s with heap := h', toks := tk } := by
    intro h' tk V F₁ N₁ hV
    refine stN F₁ N₁ (fun h2 F₂ N₂ => ?_) hk kt
    have hv₂ : (fun y => if y = Str.ofString "told" then some V else m y) "value" = some v := hv
    have he₂ : (fun y => if y = Str.ofString "told" then some V else m y) "edge" = some (.int K tE) := he
    have ht₂ : (fun y => if y = Str.ofString "told" then some V else m y) "told" = some V := rfl
    -- the first if
    have look : ∀ {op : CmpOp} {q1 q2 q3 q4 q5 : Pos} {tk' : Nat} {Qb : Bool → Shared → Prop} {whole : Sem Value},
        (∀ z u tk'', (o = .ok true ∧ z < K) ∨ (o = .bad "OverflowError" ∧ K ≤ z) → wpAny (model prog w) (callerA.deeper (envOf cn cs L a ccd)) (compareOp op (.int z u) (.int K tE))
          (fun c s₃ => wpAny (model prog w) (callerA.deeper (envOf cn cs L a ccd)) (truthy c) Qb E s₃) E { s with heap := h2, toks := tk'' }) →
        behindInMarks op (.Name "edge" q5) = false →
        wpAny (model prog w) (callerA.deeper (envOf cn cs L a ccd)) (isTrue (.Compare (.Call (.Name "abs" q1) [.Name "value" q2] [] q3) [op] [.Name "edge" q5] q4) (envOf cn cs L a ccd) whole) Qb E { s with heap := h2, toks := tk' } := by
      intro op q1 q2 q3 q4 q5 tk' Qb whole h hm
      refine wpAny_isTrue_Compare1 (Call_ (ld_builtin_at (s := { s with heap := h2, toks := tk' }) F₂ R.names.g R.abs.1 R.names.b R.abs.2 (callWith_builtin1 (args_cons (ld F₂ hv₂ (args_nil ?_) hk kv))) hk ka)) hm
      exact S.abs fun z u tk'' hz => ld (s := { s with heap := h2, toks := tk'' }) F₂ he₂ (h z u tk'' hz) hk ke
    have fin : ∀ tk', Qf .next { s with heap := h2, toks := tk' } := fun tk' => k h2 tk' V F₂ N₂
    have second : ∀ tk', wpAny (model prog w) (callerA.deeper (envOf cn cs L a ccd)) (execs
      [.If (.BoolOp .And [.Compare (.Call (.Name "abs" p18) [.Name "value" p19] [] p20) [.GtE] [.Name "edge" p21] p22, .Compare (.Name "told" p23) [.NotEq] [.Constant (.str "past") k3 p24] p25] p26)
         [.Return (some (.Constant (.bool false) k4 p27)) p28] [] p29] (envOf cn cs L a ccd)) Qf E { s with heap := h2, toks := tk' } := fun tk' => by
      refine wpAny_execs_cons (wpAny_If (isTrue_and (look (fun z u tk'' hz => ?_) rfl)))
      refine PyProof.Rows.ge_int (wpAny_truthy_bool ?_)
      rcases hz with ⟨e1, e2⟩ | ⟨e1, e2⟩
      · rw [decide_eq_false (by omega)]
        exact wpAny_execs_nil (wpAny_execs_nil (fin tk''))
      · rw [decide_eq_true (by omega)]
        refine isTrue_and (wpAny_isTrue_Compare1 (ld (s := { s with heap := h2, toks := tk'' }) F₂ ht₂ ?_ hk kt) rfl)
        rcases hV with ⟨e3, e4⟩ | ⟨e3, t, e4⟩
        · rw [e1] at e3
          cases e3
        · subst e4
          refine wpAny_Constant_str (PyProof.Rows.ne_str (wpAny_truthy_bool ?_))
          rw [bne_self_eq_false]
          exact wpAny_execs_nil (wpAny_execs_nil (fin _))
    refine wpAny_execs_cons (wpAny_If (isTrue_and (look (fun z u tk'' hz => ?_) rfl)))
    refine lt_int (wpAny_truthy_bool ?_)
    rcases hz with ⟨e1, e2⟩ | ⟨e1, e2⟩
    · rw [decide_eq_true e2]
      refine isTrue_and (wpAny_isTrue_Compare1 (ld (s := { s with heap := h2, toks := tk'' }) F₂ ht₂ ?_ hk kt) rfl)
      rcases hV with ⟨e3, e4⟩ | ⟨e3, t, e4⟩
      · subst e4
        refine wpAny_Constant_bool (wpAny_isNot_self rfl (wpAny_truthy_bool ?_))
        exact wpAny_execs_nil (second tk'')
      · rw [e1] at e3
        cases e3
    · rw [decide_eq_false (by omega)]
      exact wpAny_execs_nil (second tk'')
  refine wpAny_execs_cons (wpAny_Assign_Name (Call_ (ld_global_at F R.names.g R.name' (callWith_def (o := oT) g2 (args_cons (ld F hv (args_nil ⟨F.keep _ _ g1, ?_⟩) hk kv))) hk kf)))
  refine told_law (o := o) R F N hk (S.kind _) (fun b e h' tk F₁ N₁ => ?_) (fun e h' tk t F₁ N₁ => ?_) fun e h' tk t F₁ N₁ => ?_
  · rcases S.out with q | q
    · refine rest h' tk _ F₁ N₁ (.inl ⟨q, ?_⟩)
      rw [e] at q
      cases q
      rfl
    · rw [e] at q
      cases q
  · exact rest h' tk _ F₁ N₁ (.inr ⟨e, t, rfl⟩)
  · rcases S.out with q | q
    · rw [e] at q
      cases q
    · rw [e] at q
      simp at q
end

section
variable {prog : Program} {w : World} {E : Value → Shared → Prop} {Q : Value → Shared → Prop} {s : Shared} {h₀ : Heap} {mg mb m : Str → Option Value} {cn : Str} {cs : Scope} {L a fF fT : Addr} {ccd : Value} {news : List (Addr × Obj)}

theorem fin_true {x : UInt64} {t : Tok} (hx : Float64.isFinite x = true) (R : Ready h₀ mg mb fF fT) (F : Fr h₀ L s.heap m) (N : News h₀ L s.heap news) (hk : cs.kind = .function)
    (k : ∀ h' tk, Fr h₀ L h' m → News h₀ L h' news → Q (.bool true) { s with heap := h', toks := tk }) :
    wpAny (model prog w) (callerA.deeper (envOf cn cs L a ccd)) (call (.ref fF) [.float x t]) Q E s := fin_law R F N hk (hx ▸ Kind.float) k
theorem fin_false {x : UInt64} {t : Tok} (hx : Float64.isFinite x = false) (R : Ready h₀ mg mb fF fT) (F : Fr h₀ L s.heap m) (N : News h₀ L s.heap news) (hk : cs.kind = .function)
    (k : ∀ h' tk, Fr h₀ L h' m → News h₀ L h' news → Q (.bool false) { s with heap := h', toks := tk }) :
    wpAny (model prog w) (callerA.deeper (envOf cn cs L a ccd)) (call (.ref fF) [.float x t]) Q E s := fin_law R F N hk (hx ▸ Kind.float) k

theorem told_no {v : Value} (hv : Kind s.heap v (.bad "TypeError")) (R : Ready h₀ mg mb fF fT) (F : Fr h₀ L s.heap m) (N : News h₀ L s.heap news) (hk : cs.kind = .function)
    (k : ∀ h' tk t, Fr h₀ L h' m → News h₀ L h' news → Q (.str "none" t) { s with heap := h', toks := tk }) :
    wpAny (model prog w) (callerA.deeper (envOf cn cs L a ccd)) (call (.ref fT) [v]) Q E s :=
  told_law R F N hk hv (fun b e => by cases e) (fun e => by simp at e) fun _ h' tk t F₁ N₁ => k h' tk t F₁ N₁
theorem told_text {x : Str} {t : Tok} (R : Ready h₀ mg mb fF fT) (F : Fr h₀ L s.heap m) (N : News h₀ L s.heap news) (hk : cs.kind = .function)
    (k : ∀ h' tk t, Fr h₀ L h' m → News h₀ L h' news → Q (.str "none" t) { s with heap := h', toks := tk }) :
    wpAny (model prog w) (callerA.deeper (envOf cn cs L a ccd)) (call (.ref fT) [.str x t]) Q E s := told_no .str R F N hk k
theorem told_none (R : Ready h₀ mg mb fF fT) (F : Fr h₀ L s.heap m) (N : News h₀ L s.heap news) (hk : cs.kind = .function)
    (k : ∀ h' tk t, Fr h₀ L h' m → News h₀ L h' news → Q (.str "none" t) { s with heap := h', toks := tk }) :
    wpAny (model prog w) (callerA.deeper (envOf cn cs L a ccd)) (call (.ref fT) [.none]) Q E s := told_no .none R F N hk k
theorem told_list {x : Addr} {xs : Array Value} {n : Nat} (R : Ready h₀ mg mb fF fT) (F : Fr h₀ L s.heap m) (N : News h₀ L s.heap news) (hx : (x, W.listOf xs n) ∈ news) (hk : cs.kind = .function)
    (k : ∀ h' tk t, Fr h₀ L h' m → News h₀ L h' news → Q (.str "none" t) { s with heap := h', toks := tk }) :
    wpAny (model prog w) (callerA.deeper (envOf cn cs L a ccd)) (call (.ref fT) [.ref x]) Q E s := told_no (.list (sl := #[]) (N _ hx).1) R F N hk k

theorem turn_int {K : Int} {tE : Tok} {Qf : Flow → Shared → Prop} {p1 p2 p3 p4 p5 p6 p7 p8 p9 p10 p11 p12 p13 p14 p15 p16 p17 p18 p19 p20 p21 p22 p23 p24 p25 p26 p27 p28 p29 : Pos} {k1 k2 k3 k4 : Nat} {n : Int} {t : Tok}
    (hE : IsEdge K) (R : Ready h₀ mg mb fF fT) (F : Fr h₀ L s.heap m) (N : News h₀ L s.heap news) (hk : cs.kind = .function)
    (kv : (envOf cn cs L a ccd).kindOf "value" = some .local) (ke : (envOf cn cs L a ccd).kindOf "edge" = some .local) (kt : (envOf cn cs L a ccd).kindOf "told" = some .local)
    (kf : (envOf cn cs L a ccd).kindOf "_law_told" = some .globalImplicit) (ka : (envOf cn cs L a ccd).kindOf "abs" = some .globalImplicit)
    (hv : m "value" = some (.int n t)) (he : m "edge" = some (.int K tE))
    (k : ∀ h' tk V, Fr h₀ L h' (fun y => if y = "told" then some V else m y) → News h₀ L h' news → Qf .next { s with heap := h', toks := tk }) :
    wpAny (model prog w) (callerA.deeper (envOf cn cs L a ccd)) (execs (body1 p1 p2 p3 p4 p5 p6 p7 p8 p9 p10 p11 p12 p13 p14 p15 p16 p17 p18 p19 p20 p21 p22 p23 p24 p25 p26 p27 p28 p29 k1 k2 k3 k4) (envOf cn cs L a ccd)) Qf E s := by
  obtain ⟨o, S⟩ := sized_int hE n t
  exact turn R F N hk kv ke kt kf ka hv he S k
theorem turn_bool {K : Int} {tE : Tok} {Qf : Flow → Shared → Prop} {p1 p2 p3 p4 p5 p6 p7 p8 p9 p10 p11 p12 p13 p14 p15 p16 p17 p18 p19 p20 p21 p22 p23 p24 p25 p26 p27 p28 p29 : Pos} {k1 k2 k3 k4 : Nat} {b : Bool}
    (hE : IsEdge K) (R : Ready h₀ mg mb fF fT) (F : Fr h₀ L s.heap m) (N : News h₀ L s.heap news) (hk : cs.kind = .function)
    (kv : (envOf cn cs L a ccd).kindOf "value" = some .local) (ke : (envOf cn cs L a ccd).kindOf "edge" = some .local) (kt : (envOf cn cs L a ccd).kindOf "told" = some .local)
    (kf : (envOf cn cs L a ccd).kindOf "_law_told" = some .globalImplicit) (ka : (envOf cn cs L a ccd).kindOf "abs" = some .globalImplicit)
    (hv : m "value" = some (.bool b)) (he : m "edge" = some (.int K tE))
    (k : ∀ h' tk V, Fr h₀ L h' (fun y => if y = "told" then some V else m y) → News h₀ L h' news → Qf .next { s with heap := h', toks := tk }) :
    wpAny (model prog w) (callerA.deeper (envOf cn cs L a ccd)) (execs (body1 p1 p2 p3 p4 p5 p6 p7 p8 p9 p10 p11 p12 p13 p14 p15 p16 p17 p18 p19 p20 p21 p22 p23 p24 p25 p26 p27 p28 p29 k1 k2 k3 k4) (envOf cn cs L a ccd)) Qf E s := by
  obtain ⟨o, S⟩ := sized_bool hE b
  exact turn R F N hk kv ke kt kf ka hv he S k

/-- no object of the ledger stands at I -/
structure Off (I : Addr) (news : List (Addr × Obj)) : Prop where
  ne : ∀ p ∈ news, p.1 ≠ I
theorem off_of {I : Addr} (h : ∀ p ∈ news, p.1 < I) : Off I news := ⟨fun p hp => Nat.ne_of_lt (h p hp)⟩

theorem unr_end {I : Addr} {it : Obj} {rest : (Str → Option Value) → List (Addr × Obj) → Prop} {h' : Heap} {tk : Nat} {m' : Str → Option Value}
    (F : Fr h₀ L h' m') (N : News h₀ L h' ((I, it) :: news)) (O : Off I news) (r : rest m' news) : UnrEnd h₀ L s I it rest { s with heap := h', toks := tk } :=
  UnrEnd.intro F N news (fun _ hp => hp) O.ne r

theorem abs_any {A : Around} {n : Int} {t : Tok} (h : ∀ z u tk, 0 ≤ z → Q (.int z u) { s with toks := tk }) :
    wpAny (model prog w) A (call (.builtin "abs") [.int n t]) Q E s := call_abs_int fun u tk => h _ u tk (by split <;> omega)

/-- a number within the edge: itself, or its rest -/
theorem pick_n {K n : Int} {tE t : Tok} {p1 p2 p3 p4 p5 p6 p7 p8 p9 p10 : Pos} (hE : IsEdge K) (F : Fr h₀ L s.heap m) (hk : cs.kind = .function)
    (kx : (envOf cn cs L a ccd).kindOf "x" = some .local) (ke : (envOf cn cs L a ccd).kindOf "edge" = some .local)
    (hx : m "x" = some (.int n t)) (he : m "edge" = some (.int K tE))
    (k : ∀ z u tk, -K < z → z < K → Q (.int z u) { s with toks := tk }) :
    wpAny (model prog w) (callerA.deeper (envOf cn cs L a ccd)) (eval (.IfExp (.Compare (.UnaryOp .USub (.Name "edge" p1) p2) [.Lt, .Lt] [.Name "x" p3, .Name "edge" p4] p5) (.Name "x" p6) (.BinOp (.Name "x" p7) .Mod (.Name "edge" p8) p9) p10) (envOf cn cs L a ccd)) Q E s := by
  have hB := hE.big
  have rest : ∀ tk, wpAny (model prog w) (callerA.deeper (envOf cn cs L a ccd)) (eval (.BinOp (.Name "x" p7) .Mod (.Name "edge" p8) p9) (envOf cn cs L a ccd)) Q E { s with toks := tk } := fun tk => by
    refine wpAny_BinOp (ld (s := { s with toks := tk }) F hx (ld (s := { s with toks := tk }) F he (mod_int' (by omega) (k _ _ _ ?_ ?_)) hk ke) hk kx)
    · have := Int.fmod_nonneg_of_pos n (show 0 < K by omega)
      omega
    · exact Int.fmod_lt_of_pos n (by omega)
  refine wpAny_IfExp (isTrue_chain (wpAny_UnaryOp (ld F he (neg_int (test_link (ld (s := { s with toks := s.toks + 1 }) F hx (lt_int (wpAny_truthy_bool ?_)) hk kx))) hk ke)) rfl)
  by_cases c : -K < n
  · rw [decide_eq_true c]
    refine test_last (ld (s := { s with toks := s.toks + 1 }) F he (lt_int (wpAny_truthy_bool ?_)) hk ke)
    by_cases d : n < K
    · rw [decide_eq_true d]
      exact ld (s := { s with toks := s.toks + 1 }) F hx (k _ _ _ c d) hk kx
    · rw [decide_eq_false d]
      exact rest _
  · rw [decide_eq_false c]
    exact rest _
end
end Mine

open PySem PySem.W PyProof.Rows
open Mine
-- the edge, its size out of sight
local macro_rules | `(tactic| walk_at "binaryOp Sub int int") => `(tactic| ((with_reducible show wpAny _ _ (binaryOp Operator.Sub (Value.int (2 ^ Int.toNat 1024) _) (Value.int (2 ^ Int.toNat 970) _)) _ _ _); refine Mine.edge_made ?_; intro K hE hB; clear hB; (try dsimp only)))
-- an item of the numbers, from behind too: some int
local macro_rules | `(tactic| walk_at "subscriptTail") => `(tactic| (k_here; (with_reducible show wpAny _ _ (subscriptTail (Expr.Name _ _) _ (Value.ref _) (Value.int _ _)) _ _ _); (with_unfolding_all refine' Mine.pick_int ?l ?i ?a ?b ?c ?d ?_); (case l => is_list); (case i => assumption); (case a => (simp only [List.length_append, List.length_cons, List.length_nil]; omega)); (case b => (simp only [List.length_append, List.length_cons, List.length_nil]; omega)); (case c => (simp only [List.length_append, List.length_cons, List.length_nil]; omega)); (case d => with_unfolding_all rfl); intro z' t'; (try dsimp only)))
local macro_rules | `(tactic| walk_at "call builtin:abs") => `(tactic| (k_here; (with_reducible show wpAny _ _ (call (Value.builtin "abs") [Value.int _ _]) _ _ _); refine Mine.abs_any ?_; intro z' u' tk' hz'; (try dsimp only)))
-- the number within the edge
local macro_rules | `(tactic| walk_at "eval IfExp") => `(tactic| (k_here; k_dflt (refine' Mine.pick_n ?e ?f ?k1 ?k2 ?k3 ?hx ?he ?_; (case e => assumption); (case f => k_asm); (case k1 => rfl); (case k2 => rfl); (case k3 => rfl); (case hx => rfl); (case he => rfl); intro n' u' tk' ha' hb'; (try dsimp only))))
-- a written power (the library's line looks the whole goal over first: 45 s here)
local macro_rules | `(tactic| walk_at "binaryOp Pow int int") => `(tactic| (k_here; (with_reducible refine pow_int_small ?kb1 ?kb2 ?kb3 ?_); (case kb1 => decide); (case kb2 => decide); (case kb3 => decide)))
-- a quotient: some float with an end
local macro_rules | `(tactic| walk_at "binaryOp Div int int") => `(tactic| (refine Mine.div_fin ?a ?b ?_; (case a => first | (decide +kernel) | (refine Mine.IsEdge.nat (by assumption) ?_ ?_ <;> assumption)); (case b => first | decide | omega); intro y' hy'; (try dsimp only)))
-- the calls of the two defs
local macro_rules | `(tactic| walk_at "call ref") => `(tactic| (k_here; (with_reducible show wpAny _ _ (call (Value.ref 49) [Value.float _ _]) _ _ _); k_dflt (first
  | (refine' Mine.fin_true ?a ?b ?c ?d rfl ?_; (case a => assumption); (case b => assumption); (case c => k_asm); (case d => k_asm); intro h' tk' F' N'; (try dsimp only))
  | (refine' Mine.fin_false ?a ?b ?c ?d rfl ?_; (case a => decide +kernel); (case b => assumption); (case c => k_asm); (case d => k_asm); intro h' tk' F' N'; (try dsimp only)))))
local macro_rules | `(tactic| walk_at "call ref") => `(tactic| (k_here; (with_reducible show wpAny _ _ (call (Value.ref 56) [_]) _ _ _); k_dflt (first
  | (refine' Mine.told_text ?b ?c ?d rfl ?_; (case b => assumption); (case c => k_asm); (case d => k_asm); intro h' tk' t' F' N'; (try dsimp only))
  | (refine' Mine.told_none ?b ?c ?d rfl ?_; (case b => assumption); (case c => k_asm); (case d => k_asm); intro h' tk' t' F' N'; (try dsimp only))
  | (refine' Mine.told_list ?b ?c ?d ?e rfl ?_; (case b => assumption); (case c => k_asm); (case d => k_asm); (case e => k_mem); intro h' tk' t' F' N'; (try dsimp only)))))
-- the three loops over «value», item by item
local macro_rules | `(tactic| walk_at "pyIter ref") => `(tactic| (k_here; (with_reducible show wpAny _ _ (pyIter (Value.ref _)) (fun it s₂ => LoopAtV _ _ _ _ _ (Str.ofString "value") _ _ _ it s₂) _ _); k_dflt (refine' iter_listUnr ?hh ?F ?N ?hm ?hc ?hd ?_; (case hh => rfl); (case F => k_asm); (case N => k_asm); (case hm => k_mem); (case hc => rfl); (case hd => rfl); intro i' l1; (have hO' := Mine.off_of l1); (try k_lt l1))))
local macro_rules | `(tactic| walk_at "UnrEnd") => `(tactic| ((with_reducible rename Mine.Off _ _ => hO'); (with_reducible rename Fr _ _ _ _ => kF'); (with_reducible rename News _ _ _ _ => kN'); k_dflt (refine UnrEnd.intro kF' kN' _ (fun _ hp => hp) (Mine.Off.ne hO') ⟨by k_mem, ?_⟩)))
-- a turn of the first of them
local macro_rules | `(tactic| walk_at "execs cons") => `(tactic| (k_here; (with_reducible show wpAny _ _ (execs (Stmt.Assign [Expr.Name (Str.ofString "told") _] _ _ :: _) _) _ _ _); k_dflt (first
  | (refine' Mine.turn_int ?e ?r ?f ?n ?k1 ?k2 ?k3 ?k4 ?k5 ?k6 ?hv ?he ?_; (case e => assumption); (case r => assumption); (case f => k_asm); (case n => k_asm); (case k1 => rfl); (case k2 => rfl); (case k3 => rfl); (case k4 => rfl); (case k5 => rfl); (case k6 => rfl); (case hv => rfl); (case he => rfl); intro h' tk' V' F' N'; (try dsimp only))
  | (refine' Mine.turn_bool ?e ?r ?f ?n ?k1 ?k2 ?k3 ?k4 ?k5 ?k6 ?hv ?he ?_; (case e => assumption); (case r => assumption); (case f => k_asm); (case n => k_asm); (case k1 => rfl); (case k2 => rfl); (case k3 => rfl); (case k4 => rfl); (case k5 => rfl); (case k6 => rfl); (case hv => rfl); (case he => rfl); intro h' tk' V' F' N'; (try dsimp only)))))
set_option maxRecDepth 100000 in
set_option maxHeartbeats 8000000 in
theorem PySem.Challenge.cw_kp0006_01_holds : PySem.Challenge.rw_kp0006_01.Holds := by
  k_with "pyIter ref" => k_search (fun _ => True)
  w_on
  o_law
  k_head
  case hw => w_witness2
  w_strict (k_go0; (all_goals try k_fold); (all_goals have hR := Mine.ready_of (fF := 49) (fT := 56) (by assumption) (topRead_of (by assumption)) ⟨by kernel_rfl, by kernel_rfl, by kernel_rfl, by kernel_rfl, by kernel_rfl, by kernel_rfl, by kernel_rfl⟩ ⟨_, _, _, _, _, _, _, _, _, _, _, _, _, _, _, _, ⟨⟨_, by rfl, by rfl⟩, by rfl, fun _ => by rfl, by rfl, by rfl, by rfl, by rfl, by decide⟩, fun _ => by rfl, fun _ => by rfl, fun _ => by rfl⟩ ⟨_, _, _, _, _, _, _, _, _, _, _, _, _, _, _, _, _, _, _, _, ⟨⟨_, by rfl, by rfl⟩, by rfl, fun _ => by rfl, by rfl, by rfl, by rfl, by rfl, by decide⟩, fun _ => by rfl, fun _ => by rfl, fun _ => by rfl, fun _ => by rfl⟩); k_steps; (all_goals (try k_data)); all_goals w_report)
