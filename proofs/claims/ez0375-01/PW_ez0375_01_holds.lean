import PyProof.Rows.All
import Wide.All
import OpenK.AllK
import Wide.FinOn
import Lean
import PySem.Challenge.RW_ez0375_01
set_option Elab.async false
section
open PySem PySem.W PyProof.Rows
namespace Mine
set_option maxRecDepth 100000 in
set_option maxHeartbeats 8000000 in
open_top topHead for PySem.Challenge.rw_ez0375_01
end Mine
end
section
open PySem PySem.W PyProof.Rows
set_option maxRecDepth 100000
namespace Mine
abbrev en (w : World) (k : String) (t : Tok) (v : Value) : DictEntry := ⟨PyData.keyHash w.params (Str.ofString k), .str (Str.ofString k) t, v⟩
/-- the dict of a class object -/
abbrev clsD (w : World) (t : Nat → Tok) (j : Nat → Value) (nm : Str) (u v : Tok) (li : Addr) : Obj :=
  dictOf [en w "__name__" (t 0) (.str nm u), en w "_tx_inh_by" (t 1) (.ref li), en w "_tx_attrs" (t 2) (j 2), en w "_tx_metamodel" (t 3) (j 3), en w "_tx_filename" (t 4) (j 4),
    en w "_tx_position" (t 5) (j 5), en w "_tx_position_end" (t 6) (j 6), en w "_tx_type" (t 7) (j 7), en w "_tx_peg_rule" (t 8) (j 8), en w "_tx_fqn" (t 9) (.str nm v)] 10
/-- the dict of an object of the class at c -/
abbrev objD (w : World) (t : Nat → Tok) (c df : Addr) : Obj := dictOf [en w "_tx_class" (t 0) (.ref c), en w "_tx_fields" (t 1) (.ref df)] 2

/-- a graph of classes: their names, where each lies, its heirs, a rank -/
structure Gr where
  names : List Str
  adr : Str → Addr
  kids : Str → List Str
  rk : Str → Nat

structure Gr.Ok (G : Gr) : Prop where
  kid : ∀ n ∈ G.names, ∀ k ∈ G.kids n, k ∈ G.names ∧ G.rk k < G.rk n
  low : ∀ n ∈ G.names, G.rk n < 20
  noObj : ∀ n ∈ G.names, n ≠ Str.ofString "OBJECT"

/-- the class n lies in the ledger -/
def ClsAt (w : World) (news : List (Addr × Obj)) (G : Gr) (n : Str) : Prop :=
  ∃ (dc li : Addr) (t : Nat → Tok) (j : Nat → Value) (u v : Tok) (k : Nat), (G.adr n, instObj 52 dc) ∈ news ∧ (dc, clsD w t j n u v li) ∈ news ∧ (li, listOf ((G.kids n).map fun k => Value.ref (G.adr k)).toArray k) ∈ news

def ClsIn (w : World) (news : List (Addr × Obj)) (G : Gr) : Prop := ∀ n ∈ G.names, ClsAt w news G n

/-- an object of the class n lies in the ledger at x -/
def ObjAt (prog : Program) (w : World) (news : List (Addr × Obj)) (x c : Addr) : Prop :=
  ∃ (dx df : Addr) (t : Nat → Tok) (of : Obj), (x, instObj 80 dx) ∈ news ∧ (dx, objD w t c df) ∈ news ∧ (df, of) ∈ news ∧ of.IsDictOf (PySem.strKind prog w) [] ∧ (df == sysModules) = false

theorem ClsAt.mono {w : World} {news news' : List (Addr × Obj)} {G : Gr} {n : Str} (h : ClsAt w news G n) (hs : ∀ p ∈ news, p ∈ news') : ClsAt w news' G n := by
  obtain ⟨dc, li, t, j, u, v, k, a, b, c⟩ := h
  exact ⟨dc, li, t, j, u, v, k, hs _ a, hs _ b, hs _ c⟩
theorem ClsIn.mono {w : World} {news news' : List (Addr × Obj)} {G : Gr} (h : ClsIn w news G) (hs : ∀ p ∈ news, p ∈ news') : ClsIn w news' G := fun n hn => (h n hn).mono hs
theorem ObjAt.mono {prog : Program} {w : World} {news news' : List (Addr × Obj)} {x c : Addr} (h : ObjAt prog w news x c) (hs : ∀ p ∈ news, p ∈ news') : ObjAt prog w news' x c := by
  obtain ⟨dx, df, t, of, a, b, c, d, e⟩ := h
  exact ⟨dx, df, t, of, hs _ a, hs _ b, hs _ c, d, e⟩

inductive Reach (kids : Str → List Str) : Str → Str → Prop where
  | refl (n : Str) : Reach kids n n
  | step {n k i : Str} : k ∈ kids n → Reach kids k i → Reach kids n i

/-- one address, one class: equal addresses of classes are equal names -/
theorem ClsAt.inj {w : World} {h₀ h : Heap} {L : Addr} {news : List (Addr × Obj)} {G : Gr} {n i : Str} (N : News h₀ L h news) (a : ClsAt w news G n) (b : ClsAt w news G i) (e : G.adr n = G.adr i) : n = i := by
  obtain ⟨dc, li, t, j, u, v, k, a1, a2, a3⟩ := a
  obtain ⟨dc', li', t', j', u', v', k', b1, b2, b3⟩ := b
  have g1 := (N _ a1).1
  have g2 := (N _ b1).1
  dsimp only at g1 g2
  rw [e, g2] at g1
  have e1 : dc' = dc := by
    have := Option.some.inj g1
    injection this with _ q
    exact Option.some.inj q
  subst e1
  have g3 := (N _ a2).1
  have g4 := (N _ b2).1
  dsimp only at g3 g4
  rw [g4] at g3
  have e2 := Option.some.inj g3
  injection e2 with _ _ e3
  injection e3 with e4 _
  have e5 := congrArg Array.toList e4
  simp only [List.cons.injEq, DictEntry.mk.injEq, Value.str.injEq] at e5
  exact e5.1.2.2.1.symm
end Mine
end
section
open PySem PySem.W PyProof.Rows PySem.Calls PySem.Spec PySem.Builtin PySem.Builtin.ObjectAttr
set_option maxRecDepth 100000
namespace Mine
section
variable {prog : Program} {w : World} {A : Around} {E : Value → Shared → Prop} {s : Shared} {K : Frag} {x C : Addr} {ox : Obj} {od : Option Obj} {name : Str} {t : Tok} {fill : Bool}

theorem gab_open {Q : Value → Shared → Prop} (X : K.In s.heap) (I : InstAt s.heap x ox C od) (hga : findIn K (.ref C) "__getattribute__" = some (some (.builtin "object.__getattribute__")))
    (h : wpAny (model prog w) A.in1 (Builtin.«proto.getattr_hooked» ⟨[.ref x, .str name t], []⟩)
      (fun fin s' => match fin with | .done (.ret v) => wpAny (model prog w) A (handedOut v) Q E s' | _ => False) (fun _ _ => False) s) :
    wpAny (model prog w) A (getAttrBy (.ref x) (.str name t) fill) Q E s := by
  obtain ⟨hh, g, d, tk, os⟩ := s
  have L0 := I.type (M := model prog w)
  have L1 := looks_findIn (M := model prog w) X hga
  unfold getAttrBy
  refine wpAny_holding (wpAny_bind (L0.at (wpAny_bind (L1.at ?_))))
  show wpAny _ _ (getAttrEveryday _ _ _) _ _ _
  refine wpAny_bind (wpAny_onRaise (wpAny_runValue (codeAny_builtin F.plainObj_entry_getattr_hooked (wpAny_mono h (fun fin s' z => ?_) fun _ _ z => z.elim))))
  rcases fin with (_ | _ | _ | _) | _ <;> first | exact z | exact z.elim

theorem hooked_value {v : Value} {Q : Fin → Shared → Prop} (X : K.In s.heap) (I : InstAt s.heap x ox C od) (hf : findObj K C od name = some (.value v)) (h : Q (.done (.ret v)) s) :
    wpAny (model prog w) A (Builtin.«proto.getattr_hooked» ⟨[.ref x, .str name t], []⟩) Q E s := by
  obtain ⟨hh', g, d, tk, os⟩ := s
  have L0 := I.type (M := model prog w)
  have L1 := looks_find (M := model prog w) X I hf
  refine wpAny_bind (wpAny_pure (wpAny_bind (L0.at (wpAny_bind (L1.at ?_)))))
  exact wpAny_pure h

theorem hooked_hook {f : Addr} {Q : Fin → Shared → Prop} (X : K.In s.heap) (I : InstAt s.heap x ox C od) (hf : findObj K C od name = some .missing)
    (hk : findIn K (.ref C) "__getattr__" = some (some (.ref f))) (ht : isFn K (.ref f) = true)
    (h : wpAny (model prog w) A (call (.ref f) [.ref x, .str name t]) (fun v s' => Q (.done (.ret v)) s') E s) :
    wpAny (model prog w) A (Builtin.«proto.getattr_hooked» ⟨[.ref x, .str name t], []⟩) Q E s := by
  have LB := bind_fn (M := model prog w) X (.ref x) (beq_iff_eq.mp ht)
  obtain ⟨hh', g, d, tk, os⟩ := s
  have L0 := I.type (M := model prog w)
  have L1 := looks_find (M := model prog w) X I hf
  have L2 := looks_findIn (M := model prog w) X hk
  refine wpAny_bind (wpAny_pure (wpAny_bind (L0.at (wpAny_bind (L1.at (wpAny_bind (L2.at ?_)))))))
  show wpAny _ _ (byHook _ _ _) _ _ _
  unfold byHook
  refine wpAny_bind (LB.at ?_)
  exact wpAny_bind (wpAny_mono h (fun v s' z => wpAny_bind (wpAny_rule (wpAny_pure z))) fun _ _ e => e)

theorem gab_value {v : Value} {Q : Value → Shared → Prop} (X : K.In s.heap) (I : InstAt s.heap x ox C od) (hga : findIn K (.ref C) "__getattribute__" = some (some (.builtin "object.__getattribute__")))
    (hf : findObj K C od name = some (.value v)) (hh : handedIn v = true) (h : Q v s) : wpAny (model prog w) A (getAttrBy (.ref x) (.str name t) fill) Q E s :=
  gab_open X I hga (hooked_value X I hf (by show wpAny _ _ (handedOut v) _ _ _; rw [handedOut_of hh]; exact wpAny_pure h))

theorem gab_hook {f : Addr} {Q : Value → Shared → Prop} (X : K.In s.heap) (I : InstAt s.heap x ox C od) (hga : findIn K (.ref C) "__getattribute__" = some (some (.builtin "object.__getattribute__")))
    (hf : findObj K C od name = some .missing) (hk : findIn K (.ref C) "__getattr__" = some (some (.ref f))) (ht : isFn K (.ref f) = true)
    (h : wpAny (model prog w) A.in1 (call (.ref f) [.ref x, .str name t]) (fun v s' => handedIn v = true ∧ Q v s') (fun _ _ => False) s) :
    wpAny (model prog w) A (getAttrBy (.ref x) (.str name t) fill) Q E s :=
  gab_open X I hga (hooked_hook X I hf hk ht (wpAny_mono h (fun v s' z => by show wpAny _ _ (handedOut v) _ _ _; rw [handedOut_of z.1]; exact wpAny_pure z.2) fun _ _ z => z))

theorem ga_hook {f : Addr} {expr : Bool} {Q : Value → Shared → Prop} (X : K.In s.heap) (I : InstAt s.heap x ox C od) (hga : findIn K (.ref C) "__getattribute__" = some (some (.builtin "object.__getattribute__")))
    (hf : findObj K C od name = some .missing) (hk : findIn K (.ref C) "__getattr__" = some (some (.ref f))) (ht : isFn K (.ref f) = true)
    (h : ∀ tk, wpAny (model prog w) A.in1 (call (.ref f) [.ref x, .str name tk]) (fun v s' => handedIn v = true ∧ Q v s') (fun _ _ => False) { s with toks := s.toks + 1 }) :
    wpAny (model prog w) A (getAttr (.ref x) name expr) Q E s :=
  get_open X I hga (hooked_hook (s := { s with toks := s.toks + 1 }) X I hf hk ht (wpAny_mono (h _) (fun v s' z => by show wpAny _ _ (handedOut v) _ _ _; rw [handedOut_of z.1]; exact wpAny_pure z.2) fun _ _ z => z.elim))

theorem gabq {Q : Option Value → Shared → Prop} {o n : Value} (h : wpAny (model prog w) A (getAttrBy o n false) (fun v s' => Q (some v) s') (fun _ _ => False) s) : wpAny (model prog w) A (getAttrBy? o n) Q E s := by
  unfold getAttrBy?
  exact wpAny_bind (wpAny_attempt (wpAny_mono h (fun v s' z => wpAny_pure z) fun _ _ z => z.elim))

theorem kind_hasattr : builtinKind "hasattr" = none := by decide +kernel
theorem plain_hasattr : plainId "hasattr" = true := by decide +kernel
theorem entry_hasattr : entryFor table "hasattr" = some Builtin.«hasattr» := entryFor_of_fast (by kernel_rfl)
theorem args_hasattr (a b : Value) : argsOk "hasattr" ⟨[a, b], []⟩ := by unfold argsOk; kernel_rfl
theorem kind_getattr : builtinKind "getattr" = none := by decide +kernel
theorem plain_getattr : plainId "getattr" = true := by decide +kernel
theorem entry_getattr : entryFor table "getattr" = some Builtin.«getattr» := entryFor_of_fast (by kernel_rfl)
theorem args_getattr2 (a b : Value) : argsOk "getattr" ⟨[a, b], []⟩ := by unfold argsOk; kernel_rfl
theorem args_getattr3 (a b c : Value) : argsOk "getattr" ⟨[a, b, c], []⟩ := by unfold argsOk; kernel_rfl

theorem hasattr_inst {Q : Value → Shared → Prop} (X : K.In s.heap) (I : InstAt s.heap x ox C od) (hm : mroIn K C (.type "module") = some false)
    (h : wpAny (model prog w) A.in1 (getAttrBy (.ref x) (.str name t) false) (fun _ s' => Q (.bool true) s') (fun _ _ => False) s) :
    wpAny (model prog w) A (call (.builtin "hasattr") [.ref x, .str name t]) Q E s := by
  refine Calls.call_function_entry kind_hasattr plain_hasattr entry_hasattr (args_hasattr _ _) ?_
  have LT := I.type (M := model prog w)
  have LM := looks_mroIn (M := model prog w) X hm
  obtain ⟨hh, g, d, tk, os⟩ := s
  unfold Builtin.«hasattr»
  refine wpAny_bind (m := someArgs _ _ _ _) (wpAny_of_eq (a := [Value.ref x, Value.str name t]) rfl ?_)
  repeat (first | with_reducible refine gabq (wpAny_mono h (fun v s' z => ?_) fun _ _ z => z) | lk)
  exact ⟨_, rfl, z⟩

theorem getattr3_inst {d : Value} {Q : Value → Shared → Prop} (X : K.In s.heap) (I : InstAt s.heap x ox C od) (hm : mroIn K C (.type "module") = some false) (hs : (name == ("get_source" : Str)) = false)
    (h : wpAny (model prog w) A.in1 (getAttrBy (.ref x) (.str name t) false) (fun v s' => Q v s') (fun _ _ => False) s) :
    wpAny (model prog w) A (call (.builtin "getattr") [.ref x, .str name t, d]) Q E s := by
  refine Calls.call_function_entry kind_getattr plain_getattr entry_getattr (args_getattr3 _ _ _) ?_
  have LT := I.type (M := model prog w)
  have LM := looks_mroIn (M := model prog w) X hm
  obtain ⟨hh, g, dr, tk, os⟩ := s
  unfold Builtin.«getattr»
  refine wpAny_bind (m := someArgs _ _ _ _) (wpAny_of_eq (a := [Value.ref x, Value.str name t, d]) rfl ?_)
  have hs' : (name != ("get_source" : Str)) = true := by rw [bne, hs]; rfl
  repeat (first | with_reducible refine gabq (wpAny_mono h (fun v s' z => ?_) fun _ _ z => z) | rw [if_pos hs'] | lk)
  exact ⟨_, rfl, z⟩

theorem getattr2 {o n : Value} {Q : Value → Shared → Prop} (hn : ∃ x t, n = .str x t)
    (h : wpAny (model prog w) A.in1 (getAttrBy o n true) (fun v s' => Q v s') E s) :
    wpAny (model prog w) A (call (.builtin "getattr") [o, n]) Q E s := by
  refine Calls.call_function_entry kind_getattr plain_getattr entry_getattr (args_getattr2 _ _) ?_
  obtain ⟨nm, t, rfl⟩ := hn
  unfold Builtin.«getattr»
  refine wpAny_bind (m := someArgs _ _ _ _) (wpAny_of_eq (a := [o, Value.str nm t]) rfl ?_)
  refine wpAny_bind ?_
  refine wpAny_of_eq (a := ()) rfl ?_
  exact wpAny_bind (wpAny_mono h (fun v s' z => wpAny_pure ⟨_, rfl, z⟩) fun _ _ z => z)

end
end Mine
end
section
open PySem PySem.W PyProof.Rows PySem.Calls PySem.Spec PySem.Builtin PySem.Builtin.ObjectAttr
set_option maxRecDepth 100000
namespace Mine
theorem fresh_pm : True := by
  w_top off
  trivial
section
variable {prog : Program} {w : World} {A : Around} {E : Value → Shared → Prop} {s : Shared} {name : Str} {u : Tok}

theorem gabq_miss_int {n : Int} {t : Tok} {Q : Option Value → Shared → Prop} (hmiss : typeLookup (.type "int") name = pure none) (hA : A.handled = none) (hsz : name.length + 100 ≤ sizeLine)
    (h : ∀ h' tk, (∀ b o, s.heap.get? b = some o → h'.get? b = some o) → Q none { s with heap := h', toks := tk }) :
    wpAny (model prog w) A (getAttrBy? (.int n t) (.str name u)) Q E s := by
  obtain ⟨hp, g, d, tk, os⟩ := s
  have hT : ∀ s' : Shared, s'.TypeIs (.int n t) "int" := fun _ => rfl
  have f1 := sub_AttributeError
  have f3 := F.slot_int_getattribute.lookup
  have f4 := F.slot_int_getattribute.bind (.int n t)
  have f5 := am_int_getattr_none
  unfold getAttrBy? getAttrBy
  repeat (any_goals (first | assumption | ((with_reducible show wpAny _ _ (call (Value.builtin "int.__getattribute__") _ _) _ _ _); refine call_meets F.slot_int_getattribute (hT _) (by first | exact am_entry_int_getattribute | exact F.entry_object_getattribute) (F.args_int_getattribute_2 _ _) (meets_getattribute_miss_int n t name _ hmiss hsz) ⟨hA, fun h' tk' e hx => ?_⟩) | wp_step))
  obtain ⟨t', u', he⟩ := hx.there
  show wpAny _ _ (getattributeRaised _ _ _ _ _ _ _) _ _ _
  unfold getattributeRaised
  repeat (any_goals (first | assumption | wp_step))
  exact h _ _ hx.keeps

theorem hasattr_int {n : Int} {t : Tok} {Q : Value → Shared → Prop} (hmiss : typeLookup (.type "int") name = pure none) (hA : A.handled = none) (hsz : name.length + 100 ≤ sizeLine)
    (h : ∀ h' tk, (∀ b o, s.heap.get? b = some o → h'.get? b = some o) → Q (.bool false) { s with heap := h', toks := tk }) :
    wpAny (model prog w) A (call (.builtin "hasattr") [(.int n t), .str name u]) Q E s := by
  refine Calls.call_function_entry kind_hasattr plain_hasattr entry_hasattr (args_hasattr _ _) ?_
  unfold Builtin.«hasattr»
  refine wpAny_bind (m := someArgs _ _ _ _) (wpAny_of_eq (a := [_, Value.str name u]) rfl ?_)
  have hm' : typeLookup (.type "int") name = Sem.pure none := hmiss
  repeat (first | with_reducible refine gabq_miss_int hmiss hA hsz (fun h' tk hk => ?_) | with_reducible refine wpAny_of_eq hmiss ?_ | lk)
  exact ⟨_, rfl, h _ _ hk⟩

theorem getattr3_int {n : Int} {t : Tok} {d : Value} {Q : Value → Shared → Prop} (hmiss : typeLookup (.type "int") name = pure none) (hA : A.handled = none) (hsz : name.length + 100 ≤ sizeLine) (hs : (name == ("get_source" : Str)) = false)
    (h : ∀ h' tk, (∀ b o, s.heap.get? b = some o → h'.get? b = some o) → Q d { s with heap := h', toks := tk }) :
    wpAny (model prog w) A (call (.builtin "getattr") [(.int n t), .str name u, d]) Q E s := by
  refine Calls.call_function_entry kind_getattr plain_getattr entry_getattr (args_getattr3 _ _ _) ?_
  unfold Builtin.«getattr»
  refine wpAny_bind (m := someArgs _ _ _ _) (wpAny_of_eq (a := [_, Value.str name u, d]) rfl ?_)
  have hs' : (name != ("get_source" : Str)) = true := by rw [bne, hs]; rfl
  repeat (first | with_reducible refine gabq_miss_int hmiss hA hsz (fun h' tk hk => ?_) | rw [if_pos hs'] | lk)
  exact ⟨_, rfl, h _ _ hk⟩

theorem gabq_miss_str {x : Str} {t : Tok} {Q : Option Value → Shared → Prop} (hmiss : typeLookup (.type "str") name = pure none) (hA : A.handled = none) (hsz : name.length + 100 ≤ sizeLine)
    (h : ∀ h' tk, (∀ b o, s.heap.get? b = some o → h'.get? b = some o) → Q none { s with heap := h', toks := tk }) :
    wpAny (model prog w) A (getAttrBy? (.str x t) (.str name u)) Q E s := by
  obtain ⟨hp, g, d, tk, os⟩ := s
  have hT : ∀ s' : Shared, s'.TypeIs (.str x t) "str" := fun _ => rfl
  have f1 := sub_AttributeError
  have f3 := F.slot_str_getattribute.lookup
  have f4 := F.slot_str_getattribute.bind (.str x t)
  have f5 := am_str_getattr_none
  unfold getAttrBy? getAttrBy
  repeat (any_goals (first | assumption | ((with_reducible show wpAny _ _ (call (Value.builtin "object.__getattribute__") _ _) _ _ _); refine call_meets F.slot_str_getattribute (hT _) (by first | exact F.entry_object_getattribute | exact F.entry_object_getattribute) (F.args_object_getattribute_2 _ _) (meets_getattribute_miss_str x t name _ hmiss hsz) ⟨hA, fun h' tk' e hx => ?_⟩) | wp_step))
  obtain ⟨t', u', he⟩ := hx.there
  show wpAny _ _ (getattributeRaised _ _ _ _ _ _ _) _ _ _
  unfold getattributeRaised
  repeat (any_goals (first | assumption | wp_step))
  exact h _ _ hx.keeps

theorem hasattr_str {x : Str} {t : Tok} {Q : Value → Shared → Prop} (hmiss : typeLookup (.type "str") name = pure none) (hA : A.handled = none) (hsz : name.length + 100 ≤ sizeLine)
    (h : ∀ h' tk, (∀ b o, s.heap.get? b = some o → h'.get? b = some o) → Q (.bool false) { s with heap := h', toks := tk }) :
    wpAny (model prog w) A (call (.builtin "hasattr") [(.str x t), .str name u]) Q E s := by
  refine Calls.call_function_entry kind_hasattr plain_hasattr entry_hasattr (args_hasattr _ _) ?_
  unfold Builtin.«hasattr»
  refine wpAny_bind (m := someArgs _ _ _ _) (wpAny_of_eq (a := [_, Value.str name u]) rfl ?_)
  have hm' : typeLookup (.type "str") name = Sem.pure none := hmiss
  repeat (first | with_reducible refine gabq_miss_str hmiss hA hsz (fun h' tk hk => ?_) | with_reducible refine wpAny_of_eq hmiss ?_ | lk)
  exact ⟨_, rfl, h _ _ hk⟩

theorem getattr3_str {x : Str} {t : Tok} {d : Value} {Q : Value → Shared → Prop} (hmiss : typeLookup (.type "str") name = pure none) (hA : A.handled = none) (hsz : name.length + 100 ≤ sizeLine) (hs : (name == ("get_source" : Str)) = false)
    (h : ∀ h' tk, (∀ b o, s.heap.get? b = some o → h'.get? b = some o) → Q d { s with heap := h', toks := tk }) :
    wpAny (model prog w) A (call (.builtin "getattr") [(.str x t), .str name u, d]) Q E s := by
  refine Calls.call_function_entry kind_getattr plain_getattr entry_getattr (args_getattr3 _ _ _) ?_
  unfold Builtin.«getattr»
  refine wpAny_bind (m := someArgs _ _ _ _) (wpAny_of_eq (a := [_, Value.str name u, d]) rfl ?_)
  have hs' : (name != ("get_source" : Str)) = true := by rw [bne, hs]; rfl
  repeat (first | with_reducible refine gabq_miss_str hmiss hA hsz (fun h' tk hk => ?_) | rw [if_pos hs'] | lk)
  exact ⟨_, rfl, h _ _ hk⟩

theorem gabq_miss_none  {Q : Option Value → Shared → Prop} (hmiss : typeLookup (.type "NoneType") name = pure none) (hA : A.handled = none) (hsz : name.length + 100 ≤ sizeLine)
    (h : ∀ h' tk, (∀ b o, s.heap.get? b = some o → h'.get? b = some o) → Q none { s with heap := h', toks := tk }) :
    wpAny (model prog w) A (getAttrBy? .none (.str name u)) Q E s := by
  obtain ⟨hp, g, d, tk, os⟩ := s
  have hT : ∀ s' : Shared, s'.TypeIs .none "NoneType" := fun _ => rfl
  have f1 := sub_AttributeError
  have f3 := F.slot_NoneType_getattribute.lookup
  have f4 := F.slot_NoneType_getattribute.bind .none
  have f5 := am_none_getattr_none
  unfold getAttrBy? getAttrBy
  repeat (any_goals (first | assumption | ((with_reducible show wpAny _ _ (call (Value.builtin "object.__getattribute__") _ _) _ _ _); refine call_meets F.slot_NoneType_getattribute (hT _) (by first | exact am_entry_none_getattribute | exact F.entry_object_getattribute) (F.args_object_getattribute_2 _ _) (meets_getattribute_miss_none name _ hmiss hsz) ⟨hA, fun h' tk' e hx => ?_⟩) | wp_step))
  obtain ⟨t', u', he⟩ := hx.there
  show wpAny _ _ (getattributeRaised _ _ _ _ _ _ _) _ _ _
  unfold getattributeRaised
  repeat (any_goals (first | assumption | wp_step))
  exact h _ _ hx.keeps

theorem hasattr_none  {Q : Value → Shared → Prop} (hmiss : typeLookup (.type "NoneType") name = pure none) (hA : A.handled = none) (hsz : name.length + 100 ≤ sizeLine)
    (h : ∀ h' tk, (∀ b o, s.heap.get? b = some o → h'.get? b = some o) → Q (.bool false) { s with heap := h', toks := tk }) :
    wpAny (model prog w) A (call (.builtin "hasattr") [.none, .str name u]) Q E s := by
  refine Calls.call_function_entry kind_hasattr plain_hasattr entry_hasattr (args_hasattr _ _) ?_
  unfold Builtin.«hasattr»
  refine wpAny_bind (m := someArgs _ _ _ _) (wpAny_of_eq (a := [_, Value.str name u]) rfl ?_)
  have hm' : typeLookup (.type "NoneType") name = Sem.pure none := hmiss
  repeat (first | with_reducible refine gabq_miss_none hmiss hA hsz (fun h' tk hk => ?_) | with_reducible refine wpAny_of_eq hmiss ?_ | lk)
  exact ⟨_, rfl, h _ _ hk⟩

theorem getattr3_none  {d : Value} {Q : Value → Shared → Prop} (hmiss : typeLookup (.type "NoneType") name = pure none) (hA : A.handled = none) (hsz : name.length + 100 ≤ sizeLine) (hs : (name == ("get_source" : Str)) = false)
    (h : ∀ h' tk, (∀ b o, s.heap.get? b = some o → h'.get? b = some o) → Q d { s with heap := h', toks := tk }) :
    wpAny (model prog w) A (call (.builtin "getattr") [.none, .str name u, d]) Q E s := by
  refine Calls.call_function_entry kind_getattr plain_getattr entry_getattr (args_getattr3 _ _ _) ?_
  unfold Builtin.«getattr»
  refine wpAny_bind (m := someArgs _ _ _ _) (wpAny_of_eq (a := [_, Value.str name u, d]) rfl ?_)
  have hs' : (name != ("get_source" : Str)) = true := by rw [bne, hs]; rfl
  repeat (first | with_reducible refine gabq_miss_none hmiss hA hsz (fun h' tk hk => ?_) | rw [if_pos hs'] | lk)
  exact ⟨_, rfl, h _ _ hk⟩

theorem gabq_miss_list {a : Addr} {xs : Array Value} {k : Nat} {Q : Option Value → Shared → Prop} (hx : s.heap.get? a = some { cls := .type "list", dict := none, data := .seq xs k }) (hname : (["__module__", "__name__", "__qualname__", "__doc__", "__annotations__"] : List Str).contains name = false)
    (hmiss : typeLookup (.type "list") name = pure none) (hA : A.handled = none) (hsz : name.length + 100 ≤ sizeLine)
    (h : ∀ h' tk, (∀ b o, s.heap.get? b = some o → h'.get? b = some o) → Q none { s with heap := h', toks := tk }) :
    wpAny (model prog w) A (getAttrBy? (.ref a) (.str name u)) Q E s := by
  obtain ⟨hp, g, d, tk, os⟩ := s
  have hT : ∀ tk', (⟨hp, g, d, tk', os⟩ : Shared).TypeIs (.ref a) "list" := fun _ => ⟨_, hx, rfl⟩
  have f1 := sub_AttributeError
  have f3 := F.slot_list_getattribute.lookup
  have f4 := F.slot_list_getattribute.bind (.ref a)
  have f5 := am_list_getattr_none
  unfold getAttrBy? getAttrBy
  repeat (any_goals (first | assumption | exact hT _ | ((with_reducible show wpAny _ _ (call (Value.builtin "list.__getattribute__") _ _) _ _ _); refine call_meets F.slot_list_getattribute (hT _) am_entry_list_getattribute (F.args_list_getattribute_2 _ _) (meets_getattribute_miss_list a xs k #[] name _ hmiss hname hsz) ⟨hx, hA, fun h' tk' e hx' => ?_⟩) | wp_step))
  obtain ⟨t', u', he⟩ := hx'.there
  show wpAny _ _ (getattributeRaised _ _ _ _ _ _ _) _ _ _
  unfold getattributeRaised
  repeat (any_goals (first | assumption | wp_step))
  exact h _ _ hx'.keeps

theorem list_not_module : isSubtype (.type "list") (.type "module") = pure false := by rw [isSubtype_type]; kernel_rfl

theorem hasattr_list {a : Addr} {xs : Array Value} {k : Nat} {Q : Value → Shared → Prop} (hx : s.heap.get? a = some { cls := .type "list", dict := none, data := .seq xs k }) (hname : (["__module__", "__name__", "__qualname__", "__doc__", "__annotations__"] : List Str).contains name = false)
    (hmiss : typeLookup (.type "list") name = pure none) (hA : A.handled = none) (hsz : name.length + 100 ≤ sizeLine)
    (h : ∀ h' tk, (∀ b o, s.heap.get? b = some o → h'.get? b = some o) → Q (.bool false) { s with heap := h', toks := tk }) :
    wpAny (model prog w) A (call (.builtin "hasattr") [.ref a, .str name u]) Q E s := by
  refine Calls.call_function_entry kind_hasattr plain_hasattr entry_hasattr (args_hasattr _ _) ?_
  unfold Builtin.«hasattr»
  refine wpAny_bind (m := someArgs _ _ _ _) (wpAny_of_eq (a := [_, Value.str name u]) rfl ?_)
  have LT : Looks (model prog w) s.heap (typeOf (.ref a)) (.type "list") := (Looks.ld hx).andThen .now
  have LM : Looks (model prog w) s.heap (isSubtype (.type "list") (.type "module")) false := Looks.of_pure list_not_module
  obtain ⟨hh, g, d, tk, os⟩ := s
  repeat (first | with_reducible refine gabq_miss_list hx hname hmiss hA hsz (fun h' tk hk => ?_) | with_reducible refine wpAny_of_eq hmiss ?_ | lk)
  exact ⟨_, rfl, h _ _ hk⟩

theorem getattr3_list {a : Addr} {xs : Array Value} {k : Nat} {d : Value} {Q : Value → Shared → Prop} (hx : s.heap.get? a = some { cls := .type "list", dict := none, data := .seq xs k }) (hname : (["__module__", "__name__", "__qualname__", "__doc__", "__annotations__"] : List Str).contains name = false)
    (hmiss : typeLookup (.type "list") name = pure none) (hA : A.handled = none) (hsz : name.length + 100 ≤ sizeLine) (hs : (name == ("get_source" : Str)) = false)
    (h : ∀ h' tk, (∀ b o, s.heap.get? b = some o → h'.get? b = some o) → Q d { s with heap := h', toks := tk }) :
    wpAny (model prog w) A (call (.builtin "getattr") [.ref a, .str name u, d]) Q E s := by
  refine Calls.call_function_entry kind_getattr plain_getattr entry_getattr (args_getattr3 _ _ _) ?_
  unfold Builtin.«getattr»
  refine wpAny_bind (m := someArgs _ _ _ _) (wpAny_of_eq (a := [_, Value.str name u, d]) rfl ?_)
  have hs' : (name != ("get_source" : Str)) = true := by rw [bne, hs]; rfl
  have LT : Looks (model prog w) s.heap (typeOf (.ref a)) (.type "list") := (Looks.ld hx).andThen .now
  have LM : Looks (model prog w) s.heap (isSubtype (.type "list") (.type "module")) false := Looks.of_pure list_not_module
  obtain ⟨hh, g, d', tk, os⟩ := s
  repeat (first | with_reducible refine gabq_miss_list hx hname hmiss hA hsz (fun h' tk hk => ?_) | rw [if_pos hs'] | lk)
  exact ⟨_, rfl, h _ _ hk⟩
end
end Mine
end
section
open PySem PySem.W PyProof.Rows PySem.Calls PySem.Spec PySem.Builtin PySem.Builtin.ObjectAttr
set_option maxRecDepth 100000
namespace Mine
section
variable {prog : Program} {w : World} {A : Around} {E : Value → Shared → Prop} {s : Shared} {K : Frag} {x C L : Addr} {ox od : Obj} {name : Str} {t : Tok} {fill : Bool} {h₀ : Heap} {m : Str → Option Value} {es : List DictEntry} {n : Nat} {v : Value}

theorem findObj_miss (hh : hasDictIn K C = true) (ha : findIn K (.ref C) name = some none) (hc : copiedNames.contains name = false) (hl : lookIn name od = some none) :
    findObj K C (some od) name = some .missing := by
  obtain ⟨cd, hc', hd⟩ := any_some hh
  unfold findObj
  have ho : W.ownOf cd (some od) name = some none := by unfold W.ownOf; rw [if_pos hd]; exact hl
  rw [hc', Option.bind_some, ha, Option.bind_some]
  simp only [Option.bind_some, ho, hc, Bool.false_and, Bool.false_eq_true, if_false]

theorem get_ownH {expr : Bool} {Q : Value → Shared → Prop} {attr : Option Value} (F : Fr h₀ L s.heap m) (X₀ : K.In h₀) (I : InstAt s.heap x ox C (some (dictOf es n))) (hg : findIn K (.ref C) "__getattribute__" = some (some (.builtin "object.__getattribute__"))) (hh : hasDictIn K C = true)
    (ha : findIn K (.ref C) name = some attr) (hn : noGet K attr = true) (hl : getL name es = some (some v)) (hv : handedIn v = true) (h : Q v { s with toks := s.toks + 1 }) :
    wpAny (model prog w) A (getAttr (.ref x) name expr) Q E s :=
  get_value (X₀.keeps F.keep) I hg (findObj_own hh ha hn hl) hv h

theorem getattr3_K {d : Value} {Q : Value → Shared → Prop} {attr : Option Value} (F : Fr h₀ L s.heap m) (X₀ : K.In h₀) (I : InstAt s.heap x ox C (some (dictOf es n))) (hg : findIn K (.ref C) "__getattribute__" = some (some (.builtin "object.__getattribute__"))) (hh : hasDictIn K C = true)
    (ha : findIn K (.ref C) name = some attr) (hn : noGet K attr = true) (hl : getL name es = some (some v)) (hv : handedIn v = true) (hm : mroIn K C (.type "module") = some false) (hs : (name == ("get_source" : Str)) = false) (h : Q v s) :
    wpAny (model prog w) A (call (.builtin "getattr") [.ref x, .str name t, d]) Q E s :=
  getattr3_inst (X₀.keeps F.keep) I hm hs (gab_value (X₀.keeps F.keep) I hg (findObj_own hh ha hn hl) hv h)

theorem getattr2_K {Q : Value → Shared → Prop} {attr : Option Value} (F : Fr h₀ L s.heap m) (X₀ : K.In h₀) (I : InstAt s.heap x ox C (some (dictOf es n))) (hg : findIn K (.ref C) "__getattribute__" = some (some (.builtin "object.__getattribute__"))) (hh : hasDictIn K C = true)
    (ha : findIn K (.ref C) name = some attr) (hn : noGet K attr = true) (hl : getL name es = some (some v)) (hv : handedIn v = true) (h : Q v s) :
    wpAny (model prog w) A (call (.builtin "getattr") [.ref x, .str name t]) Q E s :=
  getattr2 ⟨_, _, rfl⟩ (gab_value (X₀.keeps F.keep) I hg (findObj_own hh ha hn hl) hv h)

theorem hasattr_K {Q : Value → Shared → Prop} {attr : Option Value} (F : Fr h₀ L s.heap m) (X₀ : K.In h₀) (I : InstAt s.heap x ox C (some (dictOf es n))) (hg : findIn K (.ref C) "__getattribute__" = some (some (.builtin "object.__getattribute__"))) (hh : hasDictIn K C = true)
    (ha : findIn K (.ref C) name = some attr) (hn : noGet K attr = true) (hl : getL name es = some (some v)) (hv : handedIn v = true) (hm : mroIn K C (.type "module") = some false) (h : Q (.bool true) s) :
    wpAny (model prog w) A (call (.builtin "hasattr") [.ref x, .str name t]) Q E s :=
  hasattr_inst (X₀.keeps F.keep) I hm (gab_value (X₀.keeps F.keep) I hg (findObj_own hh ha hn hl) hv h)

theorem hasattr_H {f : Addr} {Q : Value → Shared → Prop} (F : Fr h₀ L s.heap m) (X₀ : K.In h₀) (I : InstAt s.heap x ox C (some (dictOf es n))) (hg : findIn K (.ref C) "__getattribute__" = some (some (.builtin "object.__getattribute__"))) (hh : hasDictIn K C = true)
    (ha : findIn K (.ref C) name = some none) (hc : copiedNames.contains name = false) (hl : getL name es = some none) (hm : mroIn K C (.type "module") = some false)
    (hk : findIn K (.ref C) "__getattr__" = some (some (.ref f))) (ht : isFn K (.ref f) = true)
    (h : wpAny (model prog w) A.in1.in1 (call (.ref f) [.ref x, .str name t]) (fun v s' => handedIn v = true ∧ Q (.bool true) s') (fun _ _ => False) s) :
    wpAny (model prog w) A (call (.builtin "hasattr") [.ref x, .str name t]) Q E s :=
  hasattr_inst (X₀.keeps F.keep) I hm (gab_hook (X₀.keeps F.keep) I hg (findObj_miss hh ha hc hl) hk ht h)

theorem get_H {f : Addr} {expr : Bool} {Q : Value → Shared → Prop} (F : Fr h₀ L s.heap m) (X₀ : K.In h₀) (I : InstAt s.heap x ox C (some (dictOf es n))) (hg : findIn K (.ref C) "__getattribute__" = some (some (.builtin "object.__getattribute__"))) (hh : hasDictIn K C = true)
    (ha : findIn K (.ref C) name = some none) (hc : copiedNames.contains name = false) (hl : getL name es = some none)
    (hk : findIn K (.ref C) "__getattr__" = some (some (.ref f))) (ht : isFn K (.ref f) = true)
    (h : ∀ tk, wpAny (model prog w) A.in1 (call (.ref f) [.ref x, .str name tk]) (fun v s' => handedIn v = true ∧ Q v s') (fun _ _ => False) { s with toks := s.toks + 1 }) :
    wpAny (model prog w) A (getAttr (.ref x) name expr) Q E s :=
  ga_hook (X₀.keeps F.keep) I hg (findObj_miss hh ha hc hl) hk ht h

theorem is_two {x y : Addr} {ox oy : Obj} {news : List (Addr × Obj)} {Q : Value → Shared → Prop} (N : News h₀ L s.heap news) (hx : (x, ox) ∈ news) (hy : (y, oy) ∈ news) (hnt : ox.cls ≠ .type "tuple")
    (h1 : x = y → Q (.bool true) s) (h2 : x ≠ y → Q (.bool false) s) : wpAny (model prog w) A (compareOp .Is (.ref x) (.ref y)) Q E s := by
  by_cases h : x = y
  · subst h
    exact wpAny_is_ref_self (h1 rfl)
  · exact wpAny_is_ref_other h (N _ hx).1 (N _ hy).1 hnt (h2 h)
end
end Mine
end
section
open PySem PySem.W PyProof.Rows PySem.Calls PySem.Spec
set_option maxRecDepth 100000
namespace Mine
/-- a sign at which the walk halts -/
def Halt (P : Prop) : Prop := P
theorem halt {P : Prop} (h : Halt P) : P := h
section
variable {prog : Program} {w : World} {A : Around} {E : Value → Shared → Prop} {s : Shared} {env : Env} {h₀ : Heap} {x : Str} {body : List Stmt} {Q : Flow → Shared → Prop}

/-- what a turn's end is: the frame, the ledger (the iterator beside what is kept), and the word at the next number -/
def TEnd (h₀ : Heap) (L : Addr) (J : (Str → Option Value) → List (Addr × Obj) → Prop) (q : Addr × Obj) (must : List (Addr × Obj)) (s₁ s₂ : Shared) : Prop :=
  ∃ h' tk m' nx, s₂ = { s₁ with heap := h', toks := tk } ∧ Fr h₀ L h' m' ∧ News h₀ L h' (q :: nx) ∧ (∀ p ∈ must, p ∈ nx) ∧ (∀ p ∈ nx, p.1 ≠ q.1) ∧ J m' nx
def TPost (h₀ : Heap) (L : Addr) (J : (Str → Option Value) → List (Addr × Obj) → Prop) (q : Addr × Obj) (must : List (Addr × Obj)) (s₁ : Shared) (Q : Flow → Shared → Prop) (f : Flow) (s₂ : Shared) : Prop :=
  match f with
  | .ret v => Q (.ret v) s₂
  | .brk => Q .next s₂
  | _ => TEnd h₀ L J q must s₁ s₂

theorem TPost.ret {L : Addr} {J : (Str → Option Value) → List (Addr × Obj) → Prop} {q : Addr × Obj} {must : List (Addr × Obj)} {s₁ s₂ : Shared} {v : Value} (h : Q (.ret v) s₂) : TPost h₀ L J q must s₁ Q (.ret v) s₂ := h
theorem TPost.next {L : Addr} {J : (Str → Option Value) → List (Addr × Obj) → Prop} {q : Addr × Obj} {must : List (Addr × Obj)} {s₁ s₂ : Shared} (h : TEnd h₀ L J q must s₁ s₂) : TPost h₀ L J q must s₁ Q .next s₂ := h

/-- a loop whose walker reads the ledger's objects `must` and writes its iterator alone -/
theorem loop_gen {I : Addr} {fp : List Addr} {n : Nat} {P : Nat → Value → Prop} {St : Nat → Heap → Prop} {m₀ : Str → Option Value} {news must : List (Addr × Obj)} (J : Nat → (Str → Option Value) → List (Addr × Obj) → Prop)
    (W : Walks prog w A I fp [I] n P St) (hIf : I ∈ fp) (hfp : ∀ b ∈ fp, b = I ∨ (∃ o, h₀.get? b = some o) ∨ ∃ p ∈ must, p.1 = b) (hLf : env.locals ∉ fp) (hI₀ : h₀.get? I = none) (hm : ∀ p ∈ must, p ∈ news) (hnw : ∀ p ∈ news, p.1 ≠ I)
    (hob : ∀ i h, St i h → ∃ o, h.get? I = some o) (hst : St 0 s.heap) (F : Fr h₀ env.locals s.heap m₀) (N : News h₀ env.locals s.heap news) (hj : J 0 m₀ news)
    (turn : ∀ i v m₁ nx h tk oI, i < n → P i v → (∀ p ∈ must, p ∈ nx) → (∀ p ∈ nx, p.1 ≠ I) → J i m₁ nx → Fr h₀ env.locals h (fun y => if y = x then some v else m₁ y) → News h₀ env.locals h ((I, oI) :: nx) →
      wpAny (model prog w) A (execs body env) (TPost h₀ env.locals (J (i + 1)) (I, oI) must { s with heap := h, toks := tk } Q) E { s with heap := h, toks := tk })
    (done : ∀ m₁ nx h tk, (∀ p ∈ must, p ∈ nx) → J n m₁ nx → Fr h₀ env.locals h m₁ → News h₀ env.locals h nx → Q .next { s with heap := h, toks := tk }) :
    LoopAtV prog w A h₀ env x body Q E (.ref I) s := by
  refine ⟨I, fp, [I], n, P, St, m₀, news, (fun i m nx => (∀ p ∈ must, p ∈ nx) ∧ J i m nx), rfl, W, hLf, ?_, ?_, hst, F, N, ⟨hm, hj⟩, ?_, ?_⟩
  · intro b hb
    rw [List.mem_singleton.mp hb]
    exact hI₀
  · intro p hp hI
    exact hnw p hp (List.mem_singleton.mp hI)
  · rintro i v m₁ news₁ s₁ own ⟨hh', tk', rfl⟩ hin hP ⟨hm₁, hJ⟩ hoff hown hget hmem hst' F₁ N₁
    obtain ⟨oI, hoI⟩ := hob _ _ hst'
    have hIown : (I, oI) ∈ own := hmem I hIf hI₀ oI hoI
    have hne : ∀ p ∈ news₁, p.1 ≠ I := fun p hp e => hoff p hp (List.mem_singleton.mpr e)
    have N₂ : News h₀ env.locals hh' ((I, oI) :: news₁) := fun p hp => by
      rcases List.mem_cons.mp hp with rfl | hp
      · exact N₁ _ (List.mem_append.mpr (.inl hIown))
      · exact N₁ p (List.mem_append.mpr (.inr hp))
    refine wpAny_mono (turn i v m₁ news₁ hh' tk' oI hin hP hm₁ hne hJ F₁ N₂) (fun f s₂ p => ?_) fun _ _ e => e
    have fin : TEnd h₀ env.locals (J (i + 1)) (I, oI) must { s with heap := hh', toks := tk' } s₂ → LoopStepU h₀ env.locals [I] own (fun m nx => (∀ p ∈ must, p ∈ nx) ∧ J (i + 1) m nx) { s with heap := hh', toks := tk' } .next s₂ := by
      rintro ⟨h', tk, m', nx, e, F', N', hm', ha, hJ'⟩
      refine ⟨rfl, h', tk, m', nx, e, F', fun p hp => ?_, fun p hp hq => ha p hp (List.mem_singleton.mp hq), hm', hJ'⟩
      rcases List.mem_append.mp hp with hp | hp
      · rcases hfp p.1 (hown p hp) with e1 | ⟨o, e1⟩ | ⟨q, hq, e1⟩
        · have : p = (I, oI) := by
            have g := hget p hp
            rw [e1, hoI] at g
            exact Prod.ext e1 (Option.some.inj g).symm
          rw [this]
          exact N' _ (.head _)
        · have := (N₁ p (List.mem_append.mpr (.inl hp))).2.2
          rw [e1] at this
          cases this
        · have g := hget p hp
          have g2 := (N₁ q (List.mem_append.mpr (.inr (hm₁ q hq)))).1
          rw [e1] at g2
          have g' : hh'.get? p.1 = some p.2 := g
          rw [g2] at g'
          have : p = q := Prod.ext e1.symm (Option.some.inj g').symm
          rw [this]
          exact N' q (List.mem_cons_of_mem _ (hm' q hq))
      · exact N' p (List.mem_cons_of_mem _ hp)
    cases f with
    | ret v => exact .ret p
    | brk => exact .brk p
    | next => exact .next (fin p)
    | cont => exact .cont (fin p)
  · rintro h' tk m' news' F' N' _ ⟨hm', hJ⟩
    exact done m' news' h' tk hm' hJ F' N'

theorem loop_list {l : Addr} {vs : List Value} {nn : Nat} {m₀ : Str → Option Value} {news : List (Addr × Obj)} (J : Nat → (Str → Option Value) → List (Addr × Obj) → Prop)
    (hh : A.handled = none) (hl : (l, listOf vs.toArray nn) ∈ news) (F : Fr h₀ env.locals s.heap m₀) (N : News h₀ env.locals s.heap news) (hj : J 0 m₀ news)
    (turn : ∀ I i v m₁ nx h tk oI, vs[i]? = some v → (l, listOf vs.toArray nn) ∈ nx → (∀ p ∈ nx, p.1 ≠ I) → J i m₁ nx → Fr h₀ env.locals h (fun y => if y = x then some v else m₁ y) → News h₀ env.locals h ((I, oI) :: nx) →
      wpAny (model prog w) A (execs body env) (TPost h₀ env.locals (J (i + 1)) (I, oI) [(l, listOf vs.toArray nn)] { s with heap := h, toks := tk } Q) E { s with heap := h, toks := tk })
    (done : ∀ m₁ nx h tk, (l, listOf vs.toArray nn) ∈ nx → J vs.length m₁ nx → Fr h₀ env.locals h m₁ → News h₀ env.locals h nx → Q .next { s with heap := h, toks := tk }) :
    wpAny (model prog w) A (pyIter (.ref l)) (fun it s₂ => LoopAtV prog w A h₀ env x body Q E it s₂) E s := by
  have hol : s.heap.get? l = some (listOf vs.toArray nn) := (N _ hl).1
  have hls : s.heap.IsList l vs.toArray := ⟨_, hol, rfl, nn, rfl⟩
  have hlt : l < s.heap.objs.size := Heap.lt_size hol
  have hne : l ≠ s.heap.objs.size := Nat.ne_of_lt hlt
  refine wpAny_pyIter_list hls ?_
  have W := Walks.list (prog := prog) (w := w) hh s.heap.objs.size l hne vs.toArray
  have hlen : vs.toArray.size = vs.length := by simp
  rw [hlen] at W
  refine loop_gen (must := [(l, listOf vs.toArray nn)]) J W (.head _) ?_ ?_ (next_is_new F) (fun p hp => by rw [List.mem_singleton.mp hp]; exact hl) (fun p hp e => ?_) (fun i h st => let ⟨o, ho, _⟩ := st.1; ⟨o, ho⟩)
    ⟨⟨_, Heap.get?_push_size _ rfl, rfl, rfl⟩, hls.at fun o e => Heap.get?_push_of_some _ e⟩ (F.push _) (fun p hp => ⟨Heap.get?_push_of_some _ (N p hp).1, (N p hp).2⟩) hj ?_ ?_
  · intro b hb
    rcases List.mem_cons.mp hb with e | hb
    · exact .inl e
    · exact .inr (.inr ⟨_, .head _, (List.mem_singleton.mp hb).symm⟩)
  · intro hm
    rcases List.mem_cons.mp hm with e | hm
    · exact absurd F.ns.lt (e ▸ Nat.lt_irrefl _)
    · exact (N _ hl).2.1 ((List.mem_singleton.mp hm).symm)
  · exact absurd (Heap.lt_size (N p hp).1) (e ▸ Nat.lt_irrefl _)
  · intro i v m₁ nx h tk oI hi hP hm hne hJ F₁ N₁
    exact turn _ i v m₁ nx h tk oI (by simpa using hP) (hm _ (.head _)) hne hJ F₁ N₁
  · intro m₁ nx h tk hm hJ F₁ N₁
    exact done m₁ nx h tk (hm _ (.head _)) hJ F₁ N₁

theorem loop_dict {K : Type} [DecidableEq K] {knd : KeyKind prog w K} {d : Addr} {od : Obj} {kvs : List (K × Value)} {m₀ : Str → Option Value} {news : List (Addr × Obj)} (J : Nat → (Str → Option Value) → List (Addr × Obj) → Prop)
    (hh : A.handled = none) (hl : (d, od) ∈ news) (hd : od.IsDictOf knd kvs) (lo : (d == sysModules) = false) (F : Fr h₀ env.locals s.heap m₀) (N : News h₀ env.locals s.heap news) (hj : J 0 m₀ news)
    (turn : ∀ I i k x' v m₁ nx h tk oI, kvs[i]? = some (k, x') → knd.is k v = true → (d, od) ∈ nx → (∀ p ∈ nx, p.1 ≠ I) → J i m₁ nx → Fr h₀ env.locals h (fun y => if y = x then some v else m₁ y) → News h₀ env.locals h ((I, oI) :: nx) →
      wpAny (model prog w) A (execs body env) (TPost h₀ env.locals (J (i + 1)) (I, oI) [(d, od)] { s with heap := h, toks := tk } Q) E { s with heap := h, toks := tk })
    (done : ∀ m₁ nx h tk, (d, od) ∈ nx → J kvs.length m₁ nx → Fr h₀ env.locals h m₁ → News h₀ env.locals h nx → Q .next { s with heap := h, toks := tk }) :
    wpAny (model prog w) A (pyIter (.ref d)) (fun it s₂ => LoopAtV prog w A h₀ env x body Q E it s₂) E s := by
  have hol : s.heap.get? d = some od := (N _ hl).1
  obtain ⟨ep, hD⟩ := (Heap.dictOf_iff.mpr ⟨od, hol, hd⟩ : s.heap.DictOf knd d kvs).dictAt
  have hne : d ≠ s.heap.objs.size := Nat.ne_of_lt (Heap.lt_size hol)
  refine wpAny_pyIter_dict lo hD ?_
  have W := Walks.dictKeys (prog := prog) (w := w) (knd := knd) hh s.heap.objs.size d hne kvs ep
  refine loop_gen (must := [(d, od)]) J W (.head _) ?_ ?_ (next_is_new F) (fun p hp => by rw [List.mem_singleton.mp hp]; exact hl) (fun p hp e => ?_) (fun i h st => let ⟨o, ho, _⟩ := st.1; ⟨o, ho⟩)
    ⟨⟨_, Heap.get?_push_size _ rfl, rfl, rfl⟩, hD.push _⟩ (F.push _) (fun p hp => ⟨Heap.get?_push_of_some _ (N p hp).1, (N p hp).2⟩) hj ?_ ?_
  · intro b hb
    rcases List.mem_cons.mp hb with e | hb
    · exact .inl e
    · exact .inr (.inr ⟨_, .head _, (List.mem_singleton.mp hb).symm⟩)
  · intro hm
    rcases List.mem_cons.mp hm with e | hm
    · exact absurd F.ns.lt (e ▸ Nat.lt_irrefl _)
    · exact (N _ hl).2.1 ((List.mem_singleton.mp hm).symm)
  · exact absurd (Heap.lt_size (N p hp).1) (e ▸ Nat.lt_irrefl _)
  · rintro i v m₁ nx h tk oI hi ⟨k, x', hk, hv⟩ hm hne hJ F₁ N₁
    exact turn _ i k x' v m₁ nx h tk oI hk hv (hm _ (.head _)) hne hJ F₁ N₁
  · intro m₁ nx h tk hm hJ F₁ N₁
    exact done m₁ nx h tk (hm _ (.head _)) hJ F₁ N₁

theorem loop_range {r : Addr} {a₀ b₀ : Int} {t₀ u₀ v₀ : Tok} {n : Nat} {m₀ : Str → Option Value} {news : List (Addr × Obj)} (J : Nat → (Str → Option Value) → List (Addr × Obj) → Prop)
    (hh : A.handled = none) (hr : IsRange s.heap r a₀ b₀ 1 t₀ u₀ v₀) (hsmall : Builtin.Range.small a₀ b₀ 1 = true) (hn : Builtin.Range.rangeSize a₀ b₀ 1 = (n : Int)) (F : Fr h₀ env.locals s.heap m₀) (N : News h₀ env.locals s.heap news) (hj : J 0 m₀ news)
    (turn : ∀ I i t m₁ nx h tk oI, i < n → (∀ p ∈ nx, p.1 ≠ I) → J i m₁ nx → Fr h₀ env.locals h (fun y => if y = x then some (.int (a₀ + (i : Int)) t) else m₁ y) → News h₀ env.locals h ((I, oI) :: nx) →
      wpAny (model prog w) A (execs body env) (TPost h₀ env.locals (J (i + 1)) (I, oI) [] { s with heap := h, toks := tk } Q) E { s with heap := h, toks := tk })
    (done : ∀ m₁ nx h tk, J n m₁ nx → Fr h₀ env.locals h m₁ → News h₀ env.locals h nx → Q .next { s with heap := h, toks := tk }) :
    wpAny (model prog w) A (pyIter (.ref r)) (fun it s₂ => LoopAtV prog w A h₀ env x body Q E it s₂) E s := by
  refine wpAny_pyIter_range hr hsmall ?_
  have W : Walks prog w A s.heap.objs.size [s.heap.objs.size] [s.heap.objs.size] n (fun i v => i < n ∧ ∃ t, v = .int (a₀ + i * 1) t)
      (fun i h => IsRangeIter h s.heap.objs.size (a₀ + (i : Nat) * 1) ((n : Int) - (i : Nat)) 1) := (Walks.range hh _ a₀ 1 n).bound
  refine loop_gen (must := []) J W (.head _) ?_ ?_ (next_is_new F) (fun p hp => nomatch hp) (fun p hp e => ?_) (fun i h st => ⟨_, st⟩)
    (by show IsRangeIter _ _ _ _ _; rw [hn]; simpa using Heap.get?_push_size _ rfl) (F.push _) (fun p hp => ⟨Heap.get?_push_of_some _ (N p hp).1, (N p hp).2⟩) hj ?_ ?_
  · intro b hb
    exact .inl (List.mem_singleton.mp hb)
  · intro hm
    exact absurd F.ns.lt ((List.mem_singleton.mp hm) ▸ Nat.lt_irrefl _)
  · exact absurd (Heap.lt_size (N p hp).1) (e ▸ Nat.lt_irrefl _)
  · rintro i v m₁ nx h tk oI hi ⟨_, t, rfl⟩ hm hne hJ F₁ N₁
    have e1 : a₀ + (i : Int) * 1 = a₀ + (i : Int) := by omega
    rw [e1] at F₁
    exact turn _ i t m₁ nx h tk oI hi hne hJ F₁ N₁
  · intro m₁ nx h tk hm hJ F₁ N₁
    exact done m₁ nx h tk hJ F₁ N₁

def WPost (h₀ : Heap) (L : Addr) (J : (Str → Option Value) → List (Addr × Obj) → Prop) (s₁ : Shared) (Q : Flow → Shared → Prop) (f : Flow) (s₂ : Shared) : Prop :=
  match f with
  | .ret v => Q (.ret v) s₂
  | .brk => Q .next s₂
  | _ => ∃ h' tk m' nx, s₂ = { s₁ with heap := h', toks := tk } ∧ Fr h₀ L h' m' ∧ News h₀ L h' nx ∧ J m' nx
theorem WPost.next {L : Addr} {J : (Str → Option Value) → List (Addr × Obj) → Prop} {s₁ s₂ : Shared} (h : ∃ h' tk m' nx, s₂ = { s₁ with heap := h', toks := tk } ∧ Fr h₀ L h' m' ∧ News h₀ L h' nx ∧ J m' nx) : WPost h₀ L J s₁ Q .next s₂ := h

/-- a while by an invariant and a measure -/
theorem loop_while {test : PySem.Expr} {orelse : List Stmt} {pos : Pos} {m₀ : Str → Option Value} {news : List (Addr × Obj)} (J : Nat → (Str → Option Value) → List (Addr × Obj) → Prop) (k₀ : Nat)
    (hE : PassesOwn (model prog w) A env E) (F : Fr h₀ env.locals s.heap m₀) (N : News h₀ env.locals s.heap news) (hj : J k₀ m₀ news)
    (turn : ∀ k m₁ nx h tk, J k m₁ nx → Fr h₀ env.locals h m₁ → News h₀ env.locals h nx →
      wpAny (model prog w) A (isTrue test env (eval test env)) (fun b s₂ => WhlIf b (wpAny (model prog w) A (execs body env) (WPost h₀ env.locals (fun m' nx' => ∃ j, j < k ∧ J j m' nx') { s with heap := h, toks := tk } Q) E s₂) (wpAny (model prog w) A (execs orelse env) Q E s₂)) E { s with heap := h, toks := tk }) :
    wpAny (model prog w) A (exec (.While test body orelse pos) env) Q E s := by
  have all : ∀ n k m₁ nx h tk, k < n → J k m₁ nx → Fr h₀ env.locals h m₁ → News h₀ env.locals h nx → WhlRest prog w A E env test body orelse Q n { s with heap := h, toks := tk } := by
    intro n
    induction n with
    | zero => intro k m₁ nx h tk hk; exact absurd hk (Nat.not_lt_zero _)
    | succ n ih =>
      intro k m₁ nx h tk hk hJ F₁ N₁
      refine whl_turn hE (wpAny_mono (turn k m₁ nx h tk hJ F₁ N₁) (fun b s₂ h₂ => ?_) fun _ _ e => e)
      cases b with
      | false => exact h₂
      | true =>
        have h₃ : wpAny (model prog w) A (execs body env) (WPost h₀ env.locals (fun m' nx' => ∃ j, j < k ∧ J j m' nx') { s with heap := h, toks := tk } Q) E s₂ := h₂
        show wpAny _ _ _ _ _ _
        refine wpAny_mono h₃ (fun f s₃ h₄ => ?_) fun _ _ e => e
        have fin : (∃ h' tk' m' nx', s₃ = { ({ s with heap := h, toks := tk } : Shared) with heap := h', toks := tk' } ∧ Fr h₀ env.locals h' m' ∧ News h₀ env.locals h' nx' ∧ ∃ j, j < k ∧ J j m' nx') → WhlRest prog w A E env test body orelse Q n s₃ := by
          rintro ⟨h', tk', m', nx', rfl, F', N', j, hjk, hJ'⟩
          exact ih j m' nx' h' tk' (Nat.lt_of_lt_of_le hjk (Nat.le_of_lt_succ hk)) hJ' F' N'
        cases f with
        | next => exact fin h₄
        | cont => exact fin h₄
        | brk => exact h₄
        | ret v => exact h₄
  exact whl_start (k₀ + 1) (all (k₀ + 1) k₀ m₀ news s.heap s.toks (Nat.lt_succ_self _) hj F N)
end
end Mine
end
section
open PySem PySem.W PyProof.Rows PySem.Calls PySem.Spec
set_option maxRecDepth 100000
set_option rowWalk.seconds 0
namespace Mine
theorem fresh_is : True := by
  w_top off
  trivial
local macro_rules | `(tactic| walk_at "compareOp In str ref") => `(tactic| (k_here; k_dflt (first
  | refine kda_in (knd := PySem.strKind _ _) (by k_asm) (by k_mem) (by k_asm) (by k_asm) (strKind_is _ _ _ _) true (by rfl) ?_
  | refine kda_in (knd := PySem.strKind _ _) (by k_asm) (by k_mem) (by k_asm) (by k_asm) (strKind_is _ _ _ _) false (by rfl) ?_)))
local macro_rules | `(tactic| walk_at "getAttr ref") => `(tactic| (k_here; k_dflt (refine' get_ownH ?k1 ?k2 ?k3 ?k4 ?k5 ?k6 ?k7 ?k8 ?k9 ?_; (case k1 => k_asm); (case k2 => k_asm); (case k3 => k_inst); (case k4 => k_is); (case k5 => k_is); (case k6 => k_is); (case k7 => k_is); (case k8 => k_get); (case k9 => k_handed); k_whole)))
local macro_rules | `(tactic| walk_at "call builtin:getattr") => `(tactic| (k_here; k_dflt (first
  | (refine' getattr3_K ?k1 ?k2 ?k3 ?k4 ?k5 ?k6 ?k7 ?k8 ?k9 ?k10 ?k11 ?_; (case k1 => k_asm); (case k2 => k_asm); (case k3 => k_inst); (case k4 => k_is); (case k5 => k_is); (case k6 => k_is); (case k7 => k_is); (case k8 => k_get); (case k9 => k_handed); (case k10 => k_is); (case k11 => decide); k_whole)
  | (refine' getattr2_K ?k1 ?k2 ?k3 ?k4 ?k5 ?k6 ?k7 ?k8 ?k9 ?_; (case k1 => k_asm); (case k2 => k_asm); (case k3 => k_inst); (case k4 => k_is); (case k5 => k_is); (case k6 => k_is); (case k7 => k_is); (case k8 => k_get); (case k9 => k_handed); k_whole))))
local macro_rules | `(tactic| walk_at "call builtin:hasattr") => `(tactic| (k_here; k_dflt (
    (refine' hasattr_K ?k1 ?k2 ?k3 ?k4 ?k5 ?k6 ?k7 ?k8 ?k9 ?k10 ?_; (case k1 => k_asm); (case k2 => k_asm); (case k3 => k_inst); (case k4 => k_is); (case k5 => k_is); (case k6 => k_is); (case k7 => k_is); (case k8 => k_get); (case k9 => k_handed); (case k10 => k_is); k_whole))))
local macro_rules | `(tactic| walk_at "call ref") => `(tactic| (k_here; refine wpAny_call ?_; k_dflt (refine' code_def ?k1 ?k2 ?k3 ?k4 ?k5 ?kA ?kF ?kK ?k6 ?k7 ?k8 ?k9 ?kB ?_ ?c2 ?c3 ?c4 ?c5; (case kA => exact rfl); (case kF => exact rfl); (case kK => first | exact rfl | assumption); (case k1 => k_asm); (case k2 => k_asm); (case k3 => k_asm); (case k4 => k_asm); (case k5 => k_asm); (case k6 => k_is); (case k7 => k_is); (case k8 => ktr_room); (case k9 => exact BindsTo.of_eq rfl); (case c5 => decide); (case kB => exact locs rfl); (case c2 => exact rfl); (case c3 => exact rfl); (case c4 => exact rfl); k_whole; intro g' L' h' FG' F' N' B' X' T'; (try dsimp only); (try k_fold))))

/-- what `x.__getattr__("_tx_fqn")` tells -/
def GaTells (prog : Program) (w : World) (p : Program) (loose : List Str) (mean : ExcName → Option Value) (mg mb : Str → Option Value) : Prop :=
  ∀ (dp un : Nat) (gd : Option (List Code)) (cn : Str) (cs : Scope) (a : Addr) (ccd : Value) (cl : List (Str × Addr)) (outer : List Env) (A₀ : Around) (base h₀ : Heap) (L : Addr) (m : Str → Option Value) (news : List (Addr × Obj)) (s : Shared)
    (Q E : Value → Shared → Prop) (x dx df c dc li : Addr) (tk : Tok) (t0 t : Nat → Tok) (j : Nat → Value) (nm : Str) (u v : Tok) (of : Obj),
    Below A₀ base outer h₀ → Fr h₀ L s.heap m → (topHead.heap_39 w.params).In h₀ → News h₀ L s.heap news → Top p loose mean mg mb h₀ → cs.kind = .function →
    (x, instObj 80 dx) ∈ news → (dx, objD w t0 c df) ∈ news → (df, of) ∈ news → of.IsDictOf (PySem.strKind prog w) [] → (df == sysModules) = false →
    (c, instObj 52 dc) ∈ news → (dc, clsD w t j nm u v li) ∈ news → dp + 10 < recursionLimit → un + 60 < cLine →
    (∀ h' tk', Fr h₀ L h' m → News h₀ L h' news → Q (.str nm v) { s with heap := h', toks := tk' }) →
    wpAny (model prog w) (ktrTop dp un gd cn cs L a ccd cl outer) (call (.ref 77) [.ref x, .str (Str.ofString "_tx_fqn") tk]) Q E s

set_option maxHeartbeats 0 in
theorem ga_tells (prog : Program) (w : World) (p : Program) (loose : List Str) (mean : ExcName → Option Value) (mg mb : Str → Option Value) : GaTells prog w p loose mean mg mb := by
  have hfill : (topHead.heap_39 w.params).In ({} : Heap) → PySem.Challenge.rw_ez0375_01 = PySem.Challenge.rw_ez0375_01 := by k_fill; intro _; rfl
  clear hfill
  intro dp un gd cn cs a ccd cl outer A₀ base h₀ L m news s Q E x dx df c dc li tk t0 t j nm u v of B F X N T hk h1 h2 h3 h3d h3l h4 h5 hdp hun hret
  refine wpAny_call ?_
  k_dflt (refine' code_def (binds := [(Str.ofString "self", .ref x), (Str.ofString "item", .str (Str.ofString "_tx_fqn") tk)]) ?k1 ?k2 ?k3 ?k4 ?k5 ?kA ?kF ?kK ?k6 ?k7 ?k8 ?k9 ?kB ?_ ?c2 ?c3 ?c4 ?c5; (case kA => exact rfl); (case kF => exact rfl); (case kK => assumption); (case k1 => k_asm); (case k2 => k_asm); (case k3 => k_asm); (case k4 => k_asm); (case k5 => k_asm); (case k6 => k_is); (case k7 => k_is); (case k8 => ktr_room); (case k9 => exact BindsTo.of_eq rfl); (case c5 => decide); (case kB => exact locs rfl); (case c2 => exact rfl); (case c3 => exact rfl); (case c4 => exact rfl); k_whole; intro g' L' h' FG' F' N' B' X' T'; (try dsimp only); (try k_fold))
  k_steps
  exact hret _ _ (by k_asm) (by k_asm)

theorem ga_use {prog : Program} {w : World} {p : Program} {loose : List Str} {mean : ExcName → Option Value} {mg mb : Str → Option Value}
    {dp un : Nat} {gd : Option (List Code)} {cn : Str} {cs : Scope} {a : Addr} {ccd : Value} {cl : List (Str × Addr)} {outer : List Env} {A₀ : Around} {base h₀ : Heap} {L : Addr} {m : Str → Option Value} {news : List (Addr × Obj)} {s : Shared}
    {Q E : Value → Shared → Prop} {x dx df c dc li : Addr} {tk : Tok} {t0 t : Nat → Tok} {j : Nat → Value} {nm : Str} {u v : Tok} {of : Obj}
    (B : Below A₀ base outer h₀) (F : Fr h₀ L s.heap m) (X : (topHead.heap_39 w.params).In h₀) (N : News h₀ L s.heap news) (T : Top p loose mean mg mb h₀) (hk : cs.kind = .function)
    (h1 : (x, instObj 80 dx) ∈ news) (h2 : (dx, objD w t0 c df) ∈ news) (h3 : (df, of) ∈ news) (h3d : of.IsDictOf (PySem.strKind prog w) []) (h3l : (df == sysModules) = false)
    (h4 : (c, instObj 52 dc) ∈ news) (h5 : (dc, clsD w t j nm u v li) ∈ news) (hdp : dp + 10 < recursionLimit) (hun : un + 60 < cLine)
    (ret : ∀ h' tk', Fr h₀ L h' m → News h₀ L h' news → Q (.str nm v) { s with heap := h', toks := tk' }) :
    wpAny (model prog w) (ktrTop dp un gd cn cs L a ccd cl outer) (call (.ref 77) [.ref x, .str (Str.ofString "_tx_fqn") tk]) Q E s :=
  ga_tells prog w p loose mean mg mb dp un gd cn cs a ccd cl outer A₀ base h₀ L m news s Q E x dx df c dc li tk t0 t j nm u v of B F X N T hk h1 h2 h3 h3d h3l h4 h5 hdp hun ret

local macro_rules | `(tactic| walk_at "call builtin:hasattr") => `(tactic| (k_here; k_dflt (
    (refine' hasattr_H ?k1 ?k2 ?k3 ?k4 ?k5 ?k6 ?k7 ?k8 ?k9 ?k10 ?k11 ?_; (case k1 => k_asm); (case k2 => k_asm); (case k3 => k_inst); (case k4 => k_is); (case k5 => k_is); (case k6 => k_is); (case k7 => decide); (case k8 => k_get); (case k9 => k_is); (case k10 => k_is); (case k11 => k_is); k_whole;
      refine' ga_use ?B ?F ?X ?N ?T ?hk ?h1 ?h2 ?h3 ?h3d ?h3l ?h4 ?h5 ?dd ?uu ?_; (case B => k_asm); (case F => k_asm); (case X => k_asm); (case N => k_asm); (case T => k_asm); (case hk => first | exact rfl | assumption); (case h1 => k_mem); (case h2 => k_mem); (case h3 => k_mem); (case h3d => k_asm); (case h3l => k_asm); (case h4 => k_mem); (case h5 => k_mem); (case dd => ktr_room); (case uu => ktr_units); k_whole;
      intro h' tk' F' N'; refine ⟨rfl, ?_⟩; (try k_sweep)))))
local macro_rules | `(tactic| walk_at "getAttr ref") => `(tactic| (k_here; k_dflt (
    (refine' get_H ?k1 ?k2 ?k3 ?k4 ?k5 ?k6 ?k7 ?k8 ?k10 ?k11 ?_; (case k1 => k_asm); (case k2 => k_asm); (case k3 => k_inst); (case k4 => k_is); (case k5 => k_is); (case k6 => k_is); (case k7 => decide); (case k8 => k_get); (case k10 => k_is); (case k11 => k_is); k_whole; intro tk0';
      refine' ga_use ?B ?F ?X ?N ?T ?hk ?h1 ?h2 ?h3 ?h3d ?h3l ?h4 ?h5 ?dd ?uu ?_; (case B => k_asm); (case F => k_asm); (case X => k_asm); (case N => k_asm); (case T => k_asm); (case hk => first | exact rfl | assumption); (case h1 => k_mem); (case h2 => k_mem); (case h3 => k_mem); (case h3d => k_asm); (case h3l => k_asm); (case h4 => k_mem); (case h5 => k_mem); (case dd => ktr_room); (case uu => ktr_units); k_whole;
      intro h' tk' F' N'; refine ⟨rfl, ?_⟩; (try k_sweep)))))

local macro_rules | `(tactic| walk_at "compareOp Is ref ref") => `(tactic| (k_here; k_dflt (refine' is_two ?N ?hx ?hy ?hnt ?_ ?_; (case N => k_asm); (case hx => k_mem); (case hy => k_mem); (case hnt => (intro e9; cases e9)); k_whole); all_goals (intro hsame9)))
def IsiTells (prog : Program) (w : World) (p : Program) (loose : List Str) (mean : ExcName → Option Value) (mg mb : Str → Option Value) (G : Gr) (i n : Str) : Prop :=
  ∀ (dp un : Nat) (gd : Option (List Code)) (cn : Str) (cs : Scope) (a : Addr) (ccd : Value) (cl : List (Str × Addr)) (outer : List Env) (A₀ : Around) (base h₀ : Heap) (L : Addr) (m : Str → Option Value) (news : List (Addr × Obj)) (s : Shared)
    (Q E : Value → Shared → Prop) (x : Addr),
    Below A₀ base outer h₀ → Fr h₀ L s.heap m → (topHead.heap_39 w.params).In h₀ → News h₀ L s.heap news → Top p loose mean mg mb h₀ → cs.kind = .function →
    ClsIn w news G → ObjAt prog w news x (G.adr i) → dp + 12 + G.rk n < recursionLimit → un + 80 + 8 * G.rk n < cLine →
    (∀ b h' tk', (b = true ↔ Reach G.kids n i) → Fr h₀ L h' m → News h₀ L h' news → Q (.bool b) { s with heap := h', toks := tk' }) →
    wpAny (model prog w) (ktrTop dp un gd cn cs L a ccd cl outer) (call (.ref 35) [.ref x, .ref (G.adr n)]) Q E s

theorem isi_ih {prog : Program} {w : World} {p : Program} {loose : List Str} {mean : ExcName → Option Value} {mg mb : Str → Option Value} {G : Gr} {i q : Str} {kl : List Str}
    {dp un : Nat} {gd : Option (List Code)} {cn : Str} {cs : Scope} {a : Addr} {ccd : Value} {cl : List (Str × Addr)} {outer : List Env} {A₀ : Around} {base h₀ : Heap} {L : Addr} {m : Str → Option Value} {news : List (Addr × Obj)} {s : Shared}
    {Q E : Value → Shared → Prop} {x : Addr}
    (IH : ∀ k ∈ kl, IsiTells prog w p loose mean mg mb G i k) (hq : q ∈ kl)
    (B : Below A₀ base outer h₀) (F : Fr h₀ L s.heap m) (X : (topHead.heap_39 w.params).In h₀) (N : News h₀ L s.heap news) (T : Top p loose mean mg mb h₀) (hk : cs.kind = .function)
    (hC : ClsIn w news G) (hO : ObjAt prog w news x (G.adr i)) (hdp : dp + 12 + G.rk q < recursionLimit) (hun : un + 80 + 8 * G.rk q < cLine)
    (ret : ∀ b h' tk', (b = true ↔ Reach G.kids q i) → Fr h₀ L h' m → News h₀ L h' news → Q (.bool b) { s with heap := h', toks := tk' }) :
    wpAny (model prog w) (ktrTop dp un gd cn cs L a ccd cl outer) (call (.ref 35) [.ref x, .ref (G.adr q)]) Q E s :=
  IH q hq dp un gd cn cs a ccd cl outer A₀ base h₀ L m news s Q E x B F X N T hk hC hO hdp hun ret

local macro_rules | `(tactic| walk_at "call ref") => `(tactic| (k_here; k_dflt (
      refine' isi_ih ?IH ?hq ?B ?F ?X ?N ?T ?hk ?hC ?hO ?dd ?uu ?_; (case IH => assumption); (case hq => assumption); (case B => k_asm); (case F => k_asm); (case X => k_asm); (case N => k_asm); (case T => k_asm); (case hk => first | exact rfl | assumption); (case hC => assumption); (case hO => assumption); (case dd => first | assumption | ktr_room); (case uu => first | assumption | ktr_units); k_whole;
      intro b' h' tk' hb' F' N'; (try k_sweep))))

theorem lk_cls {m₁ m₂ : Str → Option Value} {x : Str} {v : Value} (h : ∀ y, y ≠ x → m₁ y = m₂ y) : (fun y => if y = x then some v else m₁ y) = fun y => if y = x then some v else m₂ y := by
  funext y
  by_cases e : y = x
  · simp [e]
  · simp [e, h y e]
set_option maxHeartbeats 0 in
theorem isi_step {prog : Program} {w : World} {p : Program} {loose : List Str} {mean : ExcName → Option Value} {mg mb : Str → Option Value} {G : Gr} (ok : G.Ok) {i n : Str} (hi : i ∈ G.names) (hn : n ∈ G.names)
    (IH : ∀ k ∈ G.kids n, IsiTells prog w p loose mean mg mb G i k) : IsiTells prog w p loose mean mg mb G i n := by
  have hfill : (topHead.heap_39 w.params).In ({} : Heap) → PySem.Challenge.rw_ez0375_01 = PySem.Challenge.rw_ez0375_01 := by k_fill; intro _; rfl
  clear hfill
  intro dp un gd cn cs a ccd cl outer A₀ base h₀ L m news s Q E x B F X N T hk hC hO hdp hun hret
  have cn1 := hC n hn
  have ci1 := hC i hi
  have hinj : G.adr n = G.adr i → n = i := ClsAt.inj N cn1 ci1
  obtain ⟨dx, df, t0, of, h1, h2, h3, h3d, h3l⟩ := hO
  obtain ⟨dc, li, t, j, u, v, k, h4, h5, h6⟩ := cn1
  obtain ⟨dci, lii, ti, ji, ui, vi, ki, h7, h8, _⟩ := ci1
  refine wpAny_call ?_
  k_dflt (refine' code_def (binds := [(Str.ofString "obj", .ref x), (Str.ofString "obj_cls", .ref (G.adr n))]) ?k1 ?k2 ?k3 ?k4 ?k5 ?kA ?kF ?kK ?k6 ?k7 ?k8 ?k9 ?kB ?_ ?c2 ?c3 ?c4 ?c5; (case kA => exact rfl); (case kF => exact rfl); (case kK => assumption); (case k1 => k_asm); (case k2 => k_asm); (case k3 => k_asm); (case k4 => k_asm); (case k5 => k_asm); (case k6 => k_is); (case k7 => k_is); (case k8 => ktr_room); (case k9 => exact BindsTo.of_eq rfl); (case c5 => decide); (case kB => exact locs rfl); (case c2 => exact rfl); (case c3 => exact rfl); (case c4 => exact rfl); k_whole; intro g' L' h' FG' F' N' B' X' T'; (try dsimp only); (try k_fold))
  k_steps
  · (rename (n == Str.ofString "OBJECT") = true => e9)
    exact absurd (beq_iff_eq.mp e9) (ok.noObj n hn)
  · (rename G.adr i = G.adr n => e9)
    exact hret _ _ _ ⟨fun _ => hinj e9.symm ▸ Reach.refl _, fun _ => rfl⟩ (by k_asm) (by k_asm)
  · (rename (n == i) = true => e9)
    exact hret _ _ _ ⟨fun _ => (beq_iff_eq.mp e9) ▸ Reach.refl _, fun _ => rfl⟩ (by k_asm) (by k_asm)
  · (rename (n == i) = false => e2)
    (rename Fr _ _ _ _ => F9)
    (rename News _ _ _ _ => N9)
    have hne : n ≠ i := fun e => by rw [e] at e2; simp at e2
    refine loop_list (vs := (G.kids n).map fun k => Value.ref (G.adr k)) (nn := k) (fun idx m₁ nx => nx = news ∧ (∀ y, y ≠ Str.ofString "cls" → m₁ y = List.lookup y [(Str.ofString "obj", Value.ref x), (Str.ofString "obj_cls", Value.ref (G.adr n))].reverse) ∧ ∀ q ∈ (G.kids n).take idx, ¬ Reach G.kids q i) rfl h6 F9 N9 ⟨rfl, fun _ _ => rfl, fun q hq => by simp at hq⟩ ?_ ?_
    · rintro I idx v₁ m₁ nx h₁ tk₁ oI hv₁ hl₁ hne₁ ⟨rfl, hm₁, hq₁⟩ F₁ N₁
      rw [lk_cls hm₁] at F₁
      rw [List.getElem?_map] at hv₁
      obtain ⟨q, hq, rfl⟩ := Option.map_eq_some_iff.mp hv₁
      have hqk : q ∈ G.kids n := List.mem_of_getElem? hq
      have hrk := ok.kid n hn q hqk
      have hC₁ : ClsIn w ((I, oI) :: nx) G := hC.mono fun _ h => .tail _ h
      have hO₁ : ObjAt prog w ((I, oI) :: nx) x (G.adr i) := ⟨dx, df, t0, of, .tail _ h1, .tail _ h2, .tail _ h3, h3d, h3l⟩
      clear F9 N9 hm₁ h1 h2 h3 h4 h5 h6 h7 h8 F N
      k_steps
      · (rename (_ = true ↔ Reach _ _ _) => hb₁)
        dsimp only
        refine TPost.ret ?_
        dsimp only
        k_steps
        (rename Fr _ _ _ _ => F5)
        (rename News _ _ _ _ => N5)
        exact hret _ _ _ ⟨fun _ => Reach.step hqk (hb₁.mp (by assumption)), fun _ => rfl⟩ F5 fun p hp => N5 p (.tail _ hp)
      · (rename (_ = true ↔ Reach _ _ _) => hb₁)
        (rename _ = false => hf₁)
        (rename Fr _ _ _ _ => F5)
        (rename News _ _ _ _ => N5)
        refine ⟨_, _, _, nx, rfl, F5, N5, fun p hp => by rw [List.mem_singleton.mp hp]; exact hl₁, hne₁, rfl, fun y hy => by simp [hy], fun q' hq' => ?_⟩
        rw [List.take_add_one, hq] at hq'
        rcases List.mem_append.mp hq' with hq' | hq'
        · exact hq₁ q' hq'
        · simp only [Option.toList, List.mem_singleton] at hq'
          subst hq'
          intro hr
          rw [hb₁.mpr hr] at hf₁
          cases hf₁
    · rintro m₁ nx h₁ tk₁ hl₁ ⟨rfl, hm₁, hq₁⟩ F₁ N₁
      clear F9 N9 h1 h2 h3 h4 h5 h6 h7 h8 F N
      k_steps
      refine hret _ _ _ ⟨fun e => Bool.noConfusion e, fun hr => ?_⟩ (by k_asm) (by k_asm)
      cases hr with
      | refl => exact absurd rfl hne
      | step hk' hr' => exact absurd hr' (hq₁ _ (by simpa using hk'))

/-- `textx_isinstance(an object of the class i, the class n)` tells whether i comes of n -/
theorem isi_tells {prog : Program} {w : World} {p : Program} {loose : List Str} {mean : ExcName → Option Value} {mg mb : Str → Option Value} {G : Gr} (ok : G.Ok) {i : Str} (hi : i ∈ G.names) :
    ∀ n ∈ G.names, IsiTells prog w p loose mean mg mb G i n := by
  have all : ∀ r, ∀ n ∈ G.names, G.rk n < r → IsiTells prog w p loose mean mg mb G i n := by
    intro r
    induction r with
    | zero => intro n _ h; exact absurd h (Nat.not_lt_zero _)
    | succ r ih => exact fun n hn h => isi_step ok hi hn fun k hk => ih k (ok.kid n hn k hk).1 (Nat.lt_of_lt_of_le (ok.kid n hn k hk).2 (Nat.le_of_lt_succ h))
  exact fun n hn => all _ n hn (Nat.lt_succ_self _)
end Mine
end
section
open PySem PySem.W PyProof.Rows PySem.Calls PySem.Spec
set_option maxRecDepth 100000
set_option rowWalk.seconds 0
namespace Mine
theorem fresh_ip : True := by
  w_top off
  trivial
/-- a plain value: an int, a text, None, a list of the ledger -/
inductive PlainV (news : List (Addr × Obj)) : Value → Prop where
  | int (n : Int) (t : Tok) : PlainV news (.int n t)
  | str (x : Str) (t : Tok) : PlainV news (.str x t)
  | none : PlainV news .none
  | list {a : Addr} {xs : Array Value} {k : Nat} : (a, listOf xs k) ∈ news → PlainV news (.ref a)
theorem PlainV.mono {news news' : List (Addr × Obj)} {v : Value} (h : PlainV news v) (hs : ∀ p ∈ news, p ∈ news') : PlainV news' v := by
  cases h with
  | int n t => exact .int n t
  | str x t => exact .str x t
  | none => exact .none
  | list h => exact .list (hs _ h)

theorem miss_int_class : typeLookup (.type "int") (Str.ofString "_tx_class") = pure none := am_miss_of_fast (by kernel_rfl)
theorem miss_str_class : typeLookup (.type "str") (Str.ofString "_tx_class") = pure none := am_miss_of_fast (by kernel_rfl)
theorem miss_none_class : typeLookup (.type "NoneType") (Str.ofString "_tx_class") = pure none := am_miss_of_fast (by kernel_rfl)
theorem miss_list_class : typeLookup (.type "list") (Str.ofString "_tx_class") = pure none := am_miss_of_fast (by kernel_rfl)
theorem miss_int_fqn : typeLookup (.type "int") (Str.ofString "_tx_fqn") = pure none := am_miss_of_fast (by kernel_rfl)
theorem miss_str_fqn : typeLookup (.type "str") (Str.ofString "_tx_fqn") = pure none := am_miss_of_fast (by kernel_rfl)
theorem miss_none_fqn : typeLookup (.type "NoneType") (Str.ofString "_tx_fqn") = pure none := am_miss_of_fast (by kernel_rfl)
theorem miss_list_fqn : typeLookup (.type "list") (Str.ofString "_tx_fqn") = pure none := am_miss_of_fast (by kernel_rfl)
section
variable {prog : Program} {w : World} {A : Around} {E : Value → Shared → Prop} {s : Shared} {L : Addr} {h₀ : Heap} {m : Str → Option Value} {news : List (Addr × Obj)} {v : Value} {u : Tok}
theorem getattr_plain {Q : Value → Shared → Prop} (F : Fr h₀ L s.heap m) (N : News h₀ L s.heap news) (hv : PlainV news v) (hA : A.handled = none)
    (h : ∀ h' tk, Fr h₀ L h' m → News h₀ L h' news → Q .none { s with heap := h', toks := tk }) : wpAny (model prog w) A (call (.builtin "getattr") [v, .str (Str.ofString "_tx_class") u, .none]) Q E s := by
  cases hv with
  | int n t => exact getattr3_int miss_int_class hA (by size_fits) (by decide) fun h' tk hk => h h' tk (F.keeps hk) (N.grown hk)
  | str x t => exact getattr3_str miss_str_class hA (by size_fits) (by decide) fun h' tk hk => h h' tk (F.keeps hk) (N.grown hk)
  | none => exact getattr3_none miss_none_class hA (by size_fits) (by decide) fun h' tk hk => h h' tk (F.keeps hk) (N.grown hk)
  | list hm => exact getattr3_list (N _ hm).1 (by decide) miss_list_class hA (by size_fits) (by decide) fun h' tk hk => h h' tk (F.keeps hk) (N.grown hk)
theorem hasattr_plain {Q : Value → Shared → Prop} (F : Fr h₀ L s.heap m) (N : News h₀ L s.heap news) (hv : PlainV news v) (hA : A.handled = none)
    (h : ∀ h' tk, Fr h₀ L h' m → News h₀ L h' news → Q (.bool false) { s with heap := h', toks := tk }) : wpAny (model prog w) A (call (.builtin "hasattr") [v, .str (Str.ofString "_tx_fqn") u]) Q E s := by
  cases hv with
  | int n t => exact hasattr_int miss_int_fqn hA (by size_fits) fun h' tk hk => h h' tk (F.keeps hk) (N.grown hk)
  | str x t => exact hasattr_str miss_str_fqn hA (by size_fits) fun h' tk hk => h h' tk (F.keeps hk) (N.grown hk)
  | none => exact hasattr_none miss_none_fqn hA (by size_fits) fun h' tk hk => h h' tk (F.keeps hk) (N.grown hk)
  | list hm => exact hasattr_list (N _ hm).1 (by decide) miss_list_fqn hA (by size_fits) fun h' tk hk => h h' tk (F.keeps hk) (N.grown hk)
end
local macro_rules | `(tactic| walk_at "getAttr ref") => `(tactic| (k_here; k_dflt (refine' get_ownH ?k1 ?k2 ?k3 ?k4 ?k5 ?k6 ?k7 ?k8 ?k9 ?_; (case k1 => k_asm); (case k2 => k_asm); (case k3 => k_inst); (case k4 => k_is); (case k5 => k_is); (case k6 => k_is); (case k7 => k_is); (case k8 => k_get); (case k9 => k_handed); k_whole)))
local macro_rules | `(tactic| walk_at "call builtin:getattr") => `(tactic| (k_here; k_dflt (first
  | (refine' getattr3_K ?k1 ?k2 ?k3 ?k4 ?k5 ?k6 ?k7 ?k8 ?k9 ?k10 ?k11 ?_; (case k1 => k_asm); (case k2 => k_asm); (case k3 => k_inst); (case k4 => k_is); (case k5 => k_is); (case k6 => k_is); (case k7 => k_is); (case k8 => k_get); (case k9 => k_handed); (case k10 => k_is); (case k11 => decide); k_whole)
  | (refine' getattr2_K ?k1 ?k2 ?k3 ?k4 ?k5 ?k6 ?k7 ?k8 ?k9 ?_; (case k1 => k_asm); (case k2 => k_asm); (case k3 => k_inst); (case k4 => k_is); (case k5 => k_is); (case k6 => k_is); (case k7 => k_is); (case k8 => k_get); (case k9 => k_handed); k_whole))))
local macro_rules | `(tactic| walk_at "call builtin:hasattr") => `(tactic| (k_here; k_dflt (
    (refine' hasattr_K ?k1 ?k2 ?k3 ?k4 ?k5 ?k6 ?k7 ?k8 ?k9 ?k10 ?_; (case k1 => k_asm); (case k2 => k_asm); (case k3 => k_inst); (case k4 => k_is); (case k5 => k_is); (case k6 => k_is); (case k7 => k_is); (case k8 => k_get); (case k9 => k_handed); (case k10 => k_is); k_whole))))


local macro_rules | `(tactic| walk_at "call builtin:getattr") => `(tactic| (k_here; k_dflt (refine' getattr_plain ?F ?N ?v ?A ?_; (case F => k_asm); (case N => k_asm); (case v => assumption); (case A => exact rfl); k_whole; intro h' tk' F' N'; (try k_sweep))))
local macro_rules | `(tactic| walk_at "call builtin:hasattr") => `(tactic| (k_here; k_dflt (refine' hasattr_plain ?F ?N ?v ?A ?_; (case F => k_asm); (case N => k_asm); (case v => assumption); (case A => exact rfl); k_whole; intro h' tk' F' N'; (try k_sweep))))
local macro_rules | `(tactic| walk_at "compareOp Is none ref") => `(tactic| (k_here; refine wpAny_is_other (by rfl) (fun e9 => nomatch e9) ?_))
/-- `textx_isinstance(v, the class n)` for a plain value -/
def PlTells (prog : Program) (w : World) (p : Program) (loose : List Str) (mean : ExcName → Option Value) (mg mb : Str → Option Value) (G : Gr) (n : Str) : Prop :=
  ∀ (dp un : Nat) (gd : Option (List Code)) (cn : Str) (cs : Scope) (a : Addr) (ccd : Value) (cl : List (Str × Addr)) (outer : List Env) (A₀ : Around) (base h₀ : Heap) (L : Addr) (m : Str → Option Value) (news : List (Addr × Obj)) (s : Shared)
    (Q E : Value → Shared → Prop) (v : Value),
    Below A₀ base outer h₀ → Fr h₀ L s.heap m → (topHead.heap_39 w.params).In h₀ → News h₀ L s.heap news → Top p loose mean mg mb h₀ → cs.kind = .function →
    ClsIn w news G → PlainV news v → dp + 12 + G.rk n < recursionLimit → un + 80 + 8 * G.rk n < cLine →
    (∀ h' tk', Fr h₀ L h' m → News h₀ L h' news → Q (.bool false) { s with heap := h', toks := tk' }) →
    wpAny (model prog w) (ktrTop dp un gd cn cs L a ccd cl outer) (call (.ref 35) [v, .ref (G.adr n)]) Q E s

theorem pl_ih {prog : Program} {w : World} {p : Program} {loose : List Str} {mean : ExcName → Option Value} {mg mb : Str → Option Value} {G : Gr} {q : Str} {kl : List Str}
    {dp un : Nat} {gd : Option (List Code)} {cn : Str} {cs : Scope} {a : Addr} {ccd : Value} {cl : List (Str × Addr)} {outer : List Env} {A₀ : Around} {base h₀ : Heap} {L : Addr} {m : Str → Option Value} {news : List (Addr × Obj)} {s : Shared}
    {Q E : Value → Shared → Prop} {v : Value}
    (IH : ∀ k ∈ kl, PlTells prog w p loose mean mg mb G k) (hq : q ∈ kl)
    (B : Below A₀ base outer h₀) (F : Fr h₀ L s.heap m) (X : (topHead.heap_39 w.params).In h₀) (N : News h₀ L s.heap news) (T : Top p loose mean mg mb h₀) (hk : cs.kind = .function)
    (hC : ClsIn w news G) (hO : PlainV news v) (hdp : dp + 12 + G.rk q < recursionLimit) (hun : un + 80 + 8 * G.rk q < cLine)
    (ret : ∀ h' tk', Fr h₀ L h' m → News h₀ L h' news → Q (.bool false) { s with heap := h', toks := tk' }) :
    wpAny (model prog w) (ktrTop dp un gd cn cs L a ccd cl outer) (call (.ref 35) [v, .ref (G.adr q)]) Q E s :=
  IH q hq dp un gd cn cs a ccd cl outer A₀ base h₀ L m news s Q E v B F X N T hk hC hO hdp hun ret

local macro_rules | `(tactic| walk_at "call ref") => `(tactic| (k_here; k_dflt (
      refine' pl_ih ?IH ?hq ?B ?F ?X ?N ?T ?hk ?hC ?hO ?dd ?uu ?_; (case IH => assumption); (case hq => assumption); (case B => k_asm); (case F => k_asm); (case X => k_asm); (case N => k_asm); (case T => k_asm); (case hk => first | exact rfl | assumption); (case hC => assumption); (case hO => assumption); (case dd => first | assumption | ktr_room); (case uu => first | assumption | ktr_units); k_whole;
      intro h' tk' F' N'; (try k_sweep))))

set_option maxHeartbeats 0 in
theorem pl_step {prog : Program} {w : World} {p : Program} {loose : List Str} {mean : ExcName → Option Value} {mg mb : Str → Option Value} {G : Gr} (ok : G.Ok) {n : Str} (hn : n ∈ G.names)
    (IH : ∀ k ∈ G.kids n, PlTells prog w p loose mean mg mb G k) : PlTells prog w p loose mean mg mb G n := by
  have hfill : (topHead.heap_39 w.params).In ({} : Heap) → PySem.Challenge.rw_ez0375_01 = PySem.Challenge.rw_ez0375_01 := by k_fill; intro _; rfl
  clear hfill
  intro dp un gd cn cs a ccd cl outer A₀ base h₀ L m news s Q E v0 B F X N T hk hC hO hdp hun hret
  obtain ⟨dc, li, t, j, u, v, k, h4, h5, h6⟩ := hC n hn
  refine wpAny_call ?_
  k_dflt (refine' code_def (binds := [(Str.ofString "obj", v0), (Str.ofString "obj_cls", .ref (G.adr n))]) ?k1 ?k2 ?k3 ?k4 ?k5 ?kA ?kF ?kK ?k6 ?k7 ?k8 ?k9 ?kB ?_ ?c2 ?c3 ?c4 ?c5; (case kA => exact rfl); (case kF => exact rfl); (case kK => assumption); (case k1 => k_asm); (case k2 => k_asm); (case k3 => k_asm); (case k4 => k_asm); (case k5 => k_asm); (case k6 => k_is); (case k7 => k_is); (case k8 => ktr_room); (case k9 => exact BindsTo.of_eq rfl); (case c5 => decide); (case kB => exact locs rfl); (case c2 => exact rfl); (case c3 => exact rfl); (case c4 => exact rfl); k_whole; intro g' L' h' FG' F' N' B' X' T'; (try dsimp only); (try k_fold))
  k_steps
  · (rename (n == Str.ofString "OBJECT") = true => e9)
    exact absurd (beq_iff_eq.mp e9) (ok.noObj n hn)
  · (rename Fr _ _ _ _ => F9)
    (rename News _ _ _ _ => N9)
    refine loop_list (vs := (G.kids n).map fun k => Value.ref (G.adr k)) (nn := k) (fun idx m₁ nx => nx = news ∧ (∀ y, y ≠ Str.ofString "cls" → m₁ y = List.lookup y [(Str.ofString "obj", v0), (Str.ofString "obj_cls", Value.ref (G.adr n))].reverse)) rfl h6 F9 N9 ⟨rfl, fun _ _ => rfl⟩ ?_ ?_
    · rintro I idx v₁ m₁ nx h₁ tk₁ oI hv₁ hl₁ hne₁ ⟨rfl, hm₁⟩ F₁ N₁
      rw [lk_cls hm₁] at F₁
      rw [List.getElem?_map] at hv₁
      obtain ⟨q, hq, rfl⟩ := Option.map_eq_some_iff.mp hv₁
      have hqk : q ∈ G.kids n := List.mem_of_getElem? hq
      have hrk := ok.kid n hn q hqk
      have hC₁ : ClsIn w ((I, oI) :: nx) G := hC.mono fun _ h => .tail _ h
      have hO₁ : PlainV ((I, oI) :: nx) v0 := hO.mono fun _ h => .tail _ h
      clear F9 N9 hm₁ h4 h5 h6 F N
      k_steps
      (rename Fr _ _ _ _ => F5)
      (rename News _ _ _ _ => N5)
      exact ⟨_, _, _, nx, rfl, F5, N5, fun p hp => by rw [List.mem_singleton.mp hp]; exact hl₁, hne₁, rfl, fun y hy => by simp [hy]⟩
    · rintro m₁ nx h₁ tk₁ hl₁ ⟨rfl, hm₁⟩ F₁ N₁
      clear F9 N9 h4 h5 h6 F N
      k_steps
      exact hret _ _ (by k_asm) (by k_asm)

theorem pl_tells {prog : Program} {w : World} {p : Program} {loose : List Str} {mean : ExcName → Option Value} {mg mb : Str → Option Value} {G : Gr} (ok : G.Ok) :
    ∀ n ∈ G.names, PlTells prog w p loose mean mg mb G n := by
  have all : ∀ r, ∀ n ∈ G.names, G.rk n < r → PlTells prog w p loose mean mg mb G n := by
    intro r
    induction r with
    | zero => intro n _ h; exact absurd h (Nat.not_lt_zero _)
    | succ r ih => exact fun n hn h => pl_step ok hn fun k hk => ih k (ok.kid n hn k hk).1 (Nat.lt_of_lt_of_le (ok.kid n hn k hk).2 (Nat.le_of_lt_succ h))
  exact fun n hn => all _ n hn (Nat.lt_succ_self _)

/-- `textx_isinstance(v, the class OBJECT)` is True of everything -/
def ObTells (prog : Program) (w : World) (p : Program) (loose : List Str) (mean : ExcName → Option Value) (mg mb : Str → Option Value) : Prop :=
  ∀ (dp un : Nat) (gd : Option (List Code)) (cn : Str) (cs : Scope) (a : Addr) (ccd : Value) (cl : List (Str × Addr)) (outer : List Env) (A₀ : Around) (base h₀ : Heap) (L : Addr) (m : Str → Option Value) (news : List (Addr × Obj)) (s : Shared)
    (Q E : Value → Shared → Prop) (v : Value) (c dc li : Addr) (t : Nat → Tok) (j : Nat → Value) (u v' : Tok),
    Below A₀ base outer h₀ → Fr h₀ L s.heap m → (topHead.heap_39 w.params).In h₀ → News h₀ L s.heap news → Top p loose mean mg mb h₀ → cs.kind = .function →
    (c, instObj 52 dc) ∈ news → (dc, clsD w t j (Str.ofString "OBJECT") u v' li) ∈ news → dp + 12 < recursionLimit → un + 80 < cLine →
    (∀ h' tk', Fr h₀ L h' m → News h₀ L h' news → Q (.bool true) { s with heap := h', toks := tk' }) →
    wpAny (model prog w) (ktrTop dp un gd cn cs L a ccd cl outer) (call (.ref 35) [v, .ref c]) Q E s

set_option maxHeartbeats 0 in
theorem ob_tells {prog : Program} {w : World} {p : Program} {loose : List Str} {mean : ExcName → Option Value} {mg mb : Str → Option Value} : ObTells prog w p loose mean mg mb := by
  have hfill : (topHead.heap_39 w.params).In ({} : Heap) → PySem.Challenge.rw_ez0375_01 = PySem.Challenge.rw_ez0375_01 := by k_fill; intro _; rfl
  clear hfill
  intro dp un gd cn cs a ccd cl outer A₀ base h₀ L m news s Q E v0 c dc li t j u v B F X N T hk h4 h5 hdp hun hret
  refine wpAny_call ?_
  k_dflt (refine' code_def (binds := [(Str.ofString "obj", v0), (Str.ofString "obj_cls", .ref c)]) ?k1 ?k2 ?k3 ?k4 ?k5 ?kA ?kF ?kK ?k6 ?k7 ?k8 ?k9 ?kB ?_ ?c2 ?c3 ?c4 ?c5; (case kA => exact rfl); (case kF => exact rfl); (case kK => assumption); (case k1 => k_asm); (case k2 => k_asm); (case k3 => k_asm); (case k4 => k_asm); (case k5 => k_asm); (case k6 => k_is); (case k7 => k_is); (case k8 => ktr_room); (case k9 => exact BindsTo.of_eq rfl); (case c5 => decide); (case kB => exact locs rfl); (case c2 => exact rfl); (case c3 => exact rfl); (case c4 => exact rfl); k_whole; intro g' L' h' FG' F' N' B' X' T'; (try dsimp only); (try k_fold))
  k_steps
  exact hret _ _ (by k_asm) (by k_asm)
end Mine
end
section
open PySem PySem.W PyProof.Rows PySem.Calls PySem.Spec
set_option maxRecDepth 100000
set_option rowWalk.seconds 0
namespace Mine
theorem fresh_ce : True := by
  w_top off
  trivial
/-- `_law_cell(script, k)` gives an int -/
def CeTells (prog : Program) (w : World) (p : Program) (loose : List Str) (mean : ExcName → Option Value) (mg mb : Str → Option Value) : Prop :=
  ∀ (dp un : Nat) (gd : Option (List Code)) (cn : Str) (cs : Scope) (a : Addr) (ccd : Value) (cl : List (Str × Addr)) (outer : List Env) (A₀ : Around) (base h₀ : Heap) (L : Addr) (m : Str → Option Value) (news : List (Addr × Obj)) (s : Shared)
    (Q E : Value → Shared → Prop) (sc : Addr) (vs : List Value) (ns : List Int) (k : Int) (tk : Tok),
    Below A₀ base outer h₀ → Fr h₀ L s.heap m → (topHead.heap_39 w.params).In h₀ → News h₀ L s.heap news → Top p loose mean mg mb h₀ → cs.kind = .function →
    h₀.IsList sc vs.toArray → IntsAre vs ns → ns.length ≤ 63 → 0 ≤ k → k ≤ 10 → dp + 12 < recursionLimit → un + 80 < cLine →
    (∀ d td h' tk', Fr h₀ L h' m → News h₀ L h' news → Q (.int d td) { s with heap := h', toks := tk' }) →
    wpAny (model prog w) (ktrTop dp un gd cn cs L a ccd cl outer) (call (.ref 288) [.ref sc, .int k tk]) Q E s
set_option maxHeartbeats 0 in
theorem ce_tells {prog : Program} {w : World} {p : Program} {loose : List Str} {mean : ExcName → Option Value} {mg mb : Str → Option Value} : CeTells prog w p loose mean mg mb := by
  have hfill : (topHead.heap_39 w.params).In ({} : Heap) → PySem.Challenge.rw_ez0375_01 = PySem.Challenge.rw_ez0375_01 := by k_fill; intro _; rfl
  clear hfill
  intro dp un gd cn cs a ccd cl outer A₀ base h₀ L m news s Q E sc vs ns k tk B F X N T hk hL hI hlen hk0 hk1 hdp hun hret
  refine wpAny_call ?_
  k_dflt (refine' code_def (binds := [(Str.ofString "script", .ref sc), (Str.ofString "at", .int k tk)]) ?k1 ?k2 ?k3 ?k4 ?k5 ?kA ?kF ?kK ?k6 ?k7 ?k8 ?k9 ?kB ?_ ?c2 ?c3 ?c4 ?c5; (case kA => exact rfl); (case kF => exact rfl); (case kK => assumption); (case k1 => k_asm); (case k2 => k_asm); (case k3 => k_asm); (case k4 => k_asm); (case k5 => k_asm); (case k6 => k_is); (case k7 => k_is); (case k8 => ktr_room); (case k9 => exact BindsTo.of_eq rfl); (case c5 => decide); (case kB => exact locs rfl); (case c2 => exact rfl); (case c3 => exact rfl); (case c4 => exact rfl); k_whole; intro g' L' h' FG' F' N' B' X' T'; (try dsimp only); (try k_lift B'); (try k_fold))
  have hLg : g'.IsList sc vs.toArray := hL.at fun o e => by
    have := FG'.keep sc o e
    exact this
  k_steps
  all_goals exact hret _ _ _ _ (by k_asm) (by k_asm)
end Mine
end
section
open PySem PySem.W PyProof.Rows PySem.Calls PySem.Spec PyProof.Rows.LCg PyProof.Rows.LCt
set_option maxRecDepth 100000
namespace Mine
/-- two lists, place by place -/
inductive All2 {α β : Type} (R : α → β → Prop) : List α → List β → Prop where
  | nil : All2 R [] []
  | cons {a : α} {b : β} {as : List α} {bs : List β} : R a b → All2 R as bs → All2 R (a :: as) (b :: bs)
theorem All2.snoc {α β : Type} {R : α → β → Prop} {a : α} {b : β} : ∀ {as : List α} {bs : List β}, All2 R as bs → R a b → All2 R (as ++ [a]) (bs ++ [b])
  | _, _, .nil, h => .cons h .nil
  | _, _, .cons h1 h2, h => .cons h1 (h2.snoc h)
theorem All2.strs {α : Type} {f : α → Str} : ∀ {as : List α} {bs : List Value}, All2 (fun a b => ∃ t, b = .str (f a) t) as bs → StrsAre bs (as.map f)
  | _, _, .nil => .nil
  | _, _, .cons ⟨t, e⟩ h => by subst e; exact .cons _ t h.strs
theorem All2.eqs {α : Type} {f : α → Value} : ∀ {as : List α} {bs : List Value}, All2 (fun a b => b = f a) as bs → bs = as.map f
  | _, _, .nil => rfl
  | _, _, .cons e h => by rw [e, h.eqs]; rfl
theorem All2.length {α β : Type} {R : α → β → Prop} : ∀ {as : List α} {bs : List β}, All2 R as bs → as.length = bs.length
  | _, _, .nil => rfl
  | _, _, .cons _ h => by rw [List.length_cons, List.length_cons, h.length]
theorem range_succ_filter (p : Nat → Bool) (i : Nat) : (List.range (i + 1)).filter p = (List.range i).filter p ++ (if p i = true then [i] else []) := by
  rw [List.range_succ, List.filter_append]
  congr 1
  by_cases h : p i = true
  · simp [h]
  · simp [h]

/-- a text's value -/
def StrV (x : Str) (y : Value) : Prop := ∃ t, y = .str x t
theorem StrV.of {x : Str} {t : Tok} : StrV x (.str x t) := ⟨t, rfl⟩
section
variable {prog : Program} {w : World} {A : Around} {E : Value → Shared → Prop} {s : Shared} {h₀ : Heap} {L : Addr} {m : Str → Option Value} {env : Env} {news : List (Addr × Obj)}
/-- two lists of the ledger, added; what is kept of the ledger is said -/
theorem add_two {a b : Addr} {vs ws : List Value} {j k : Nat} {keep : List (Addr × Obj)} {Q : Value → Shared → Prop} (F : Fr h₀ L s.heap m) (N : News h₀ L s.heap news) (ha : (a, listOf vs.toArray j) ∈ news) (hb : (b, listOf ws.toArray k) ∈ news)
    (sub : ∀ p ∈ keep, p ∈ news) (hsz : vs.length + ws.length ≤ sizeLine) (h : ∀ d h', Fr h₀ L h' m → News h₀ L h' ((d, listOf (vs ++ ws).toArray 0) :: keep) → (∀ p ∈ keep, p.1 < d) → Q (.ref d) { s with heap := h' }) :
    wpAny (model prog w) A (binaryOp .Add (.ref a) (.ref b)) Q E s :=
  add_arrays (hsz := by rw [List.size_toArray, List.size_toArray]; exact hsz) F N (N.isList ha) (N.isList hb) fun h' F' N' => h _ h' F' (fun p hp => by
    rcases List.mem_cons.mp hp with rfl | hp
    · exact N' _ (.head _)
    · exact N' p (.tail _ (sub p hp))) fun p hp => Heap.lt_size (N p (sub p hp)).1
/-- the state is as it stood, but for what is dropped -/
def Same (h₀ : Heap) (L : Addr) (m : Str → Option Value) (news : List (Addr × Obj)) (s₁ s₂ : Shared) : Prop := ∃ h' tk, s₂ = { s₁ with heap := h', toks := tk } ∧ Fr h₀ L h' m ∧ News h₀ L h' news

theorem rest_T {ct elt : Expr} {x : Str} {scope : Scope} {cl : List (Str × Addr)} {S : List (Addr × Obj) → Prop} {P : Nat → Value → Prop} {Fin : List Value → List (Addr × Obj) → Prop} {n : Nat} (p : Nat → Bool) (R : Nat → Value → Prop) (hS : S news)
    (turn : ∀ i v I oI C oC D ys m₂ h tk (E' : Value → Shared → Prop), i < n → P i v → NsObj oC m₂ → m₂ x = some v → Fr h₀ L h m → News h₀ L h ((I, oI) :: (C, oC) :: (D, lst ys) :: news) → Off3 I C D news → ((@Ne Nat I C) ∧ (@Ne Nat I D) ∧ (@Ne Nat C D)) →
      wpAny (model prog w) A (isTrue ct (compEnvC scope cl C env) (eval ct (compEnvC scope cl C env))) (fun ok s' => ok = p i ∧ (if ok = true then
        wpAny (model prog w) A (eval elt (compEnvC scope cl C env)) (fun y s'' => R i y ∧ Same h₀ L m ((I, oI) :: (C, oC) :: (D, lst ys) :: news) { s with heap := h, toks := tk } s'') E' s'
        else Same h₀ L m ((I, oI) :: (C, oC) :: (D, lst ys) :: news) { s with heap := h, toks := tk } s')) E' { s with heap := h, toks := tk })
    (fin : ∀ ys, All2 R ((List.range n).filter p) ys → Fin ys news) :
    CompRestT prog w A h₀ L m env ct elt x scope cl s S P Fin n 0 [] news := by
  have all : ∀ k i ys, i + k = n → All2 R ((List.range i).filter p) ys → CompRestT prog w A h₀ L m env ct elt x scope cl s S P Fin k i ys news := by
    intro k
    induction k with
    | zero => intro i ys hi hys; exact .zero (fin ys (by rw [← hi, Nat.add_zero]; exact hys))
    | succ k ih =>
      intro i ys hi hys
      refine CompRestT.succ fun v I oI C oC D m₂ h tk E' hP hC hx F N off ne => ?_
      refine wpAny_mono (turn i v I oI C oC D ys m₂ h tk E' (by omega) hP hC hx F N off ne) (fun ok s' hk => ?_) fun _ _ e => e
      obtain ⟨hp, hk⟩ := hk
      cases ok with
      | true =>
        simp only [if_true] at hk ⊢
        refine wpAny_mono hk (fun y s'' hy => ?_) fun _ _ e => e
        obtain ⟨hR, h', tk', e, F', N'⟩ := hy
        refine ⟨h', tk', news, e, F', N', off, hS, ih (i + 1) (ys ++ [y]) (by omega) ?_⟩
        rw [range_succ_filter, if_pos hp.symm]
        exact hys.snoc hR
      | false =>
        simp only [Bool.false_eq_true, if_false] at hk ⊢
        obtain ⟨h', tk', e, F', N'⟩ := hk
        refine ⟨h', tk', news, e, F', N', off, hS, ih (i + 1) ys (by omega) ?_⟩
        rw [range_succ_filter, if_neg (by rw [← hp]; exact Bool.false_ne_true), List.append_nil]
        exact hys
  exact all n 0 [] (Nat.zero_add n) .nil

theorem rest_U {elt : Expr} {x : Str} {scope : Scope} {cl : List (Str × Addr)} {S : List (Addr × Obj) → Prop} {P : Nat → Value → Prop} {Fin : List Value → List (Addr × Obj) → Prop} {n : Nat} (R : Nat → Value → Prop) (hS : S news)
    (turn : ∀ i v I oI C oC D ys m₂ h tk (E' : Value → Shared → Prop), i < n → P i v → NsObj oC m₂ → m₂ x = some v → Fr h₀ L h m → News h₀ L h ((I, oI) :: (C, oC) :: (D, lst ys) :: news) → Off3 I C D news → ((@Ne Nat I C) ∧ (@Ne Nat I D) ∧ (@Ne Nat C D)) →
      wpAny (model prog w) A (eval elt (compEnvC scope cl C env)) (fun y s'' => R i y ∧ Same h₀ L m ((I, oI) :: (C, oC) :: (D, lst ys) :: news) { s with heap := h, toks := tk } s'') E' { s with heap := h, toks := tk })
    (fin : ∀ ys, All2 R (List.range n) ys → Fin ys news) :
    CompRest prog w A h₀ L m env elt x scope cl s S P Fin n 0 [] news := by
  have all : ∀ k i ys, i + k = n → All2 R (List.range i) ys → CompRest prog w A h₀ L m env elt x scope cl s S P Fin k i ys news := by
    intro k
    induction k with
    | zero => intro i ys hi hys; exact .zero (fin ys (by rw [← hi, Nat.add_zero]; exact hys))
    | succ k ih =>
      intro i ys hi hys
      refine CompRest.succ fun v I oI C oC D m₂ h tk E' hP hC hx F N off ne => ?_
      refine wpAny_mono (turn i v I oI C oC D ys m₂ h tk E' (by omega) hP hC hx F N off ne) (fun y s'' hy => ?_) fun _ _ e => e
      obtain ⟨hR, h', tk', e, F', N'⟩ := hy
      refine ⟨h', tk', news, e, F', N', off, hS, ih (i + 1) (ys ++ [y]) (by omega) ?_⟩
      rw [List.range_succ]
      exact hys.snoc hR
  exact all n 0 [] (Nat.zero_add n) .nil

/-- a comprehension with a test over a dict of the ledger -/
theorem ListComp_TD {K : Type} [DecidableEq K] {knd : KeyKind prog w K} {ct elt iter : Expr} {x : Str} {px : Pos} {scope : Scope} {cl : List (Str × Addr)} {pos : Pos} {Q : Value → Shared → Prop} (F₀ : Fr h₀ L s.heap m)
    (hclos : closureFor scope env = pure cl) (hcell : ∀ y ∈ scope.names, y.2 ≠ .cell) (hkind : scope.kind = .function)
    (hnames : ∀ y ∈ scope.names, y.2 = .local → scope.names.lookup y.1 = some .local) (hx : scope.names.lookup x = some .local)
    (h : wpAny (model prog w) A (eval iter env) (fun xv s₁ => ∃ d od, ∃ kvs : List (K × Value), ∃ news, xv = .ref d ∧ A.handled = none ∧ Fr h₀ L s₁.heap m ∧ News h₀ L s₁.heap news ∧ (d, od) ∈ news ∧ od.IsDictOf knd kvs ∧ (d == sysModules) = false ∧ kvs.length ≤ sizeLine ∧
      ∀ s₂ : Shared, (∃ h, s₂ = { s₁ with heap := h }) → CompRestT prog w A h₀ L m env ct elt x scope cl s₂ (fun nw => (d, od) ∈ nw) (fun i v => ∃ k x', kvs[i]? = some (k, x') ∧ knd.is k v = true) (FinE h₀ L m s₂ Q) kvs.length 0 [] news) E s)
    (hs : ∀ x, foldedSetIterable iter env x = pure x := by intro _; rfl) :
    wpAny (model prog w) A (eval (.ListComp elt [⟨.Name x px, iter, [ct], 0⟩] scope pos) env) Q E s := by
  rw [eval_ListComp]
  refine wpAny_comprehension_free (use := none) rfl hs hclos hkind hnames (wpAny_mono h (fun xv s₁ h₁ => ?_) fun _ _ e => e)
  obtain ⟨d, od, kvs, news, rfl, hh, F, N, hm, hd, lo, hsz, R⟩ := h₁
  have hol : s₁.heap.get? d = some od := (N _ hm).1
  obtain ⟨ep, hD⟩ := (Heap.dictOf_iff.mpr ⟨od, hol, hd⟩ : s₁.heap.DictOf knd d kvs).dictAt
  have hlt : d < s₁.heap.objs.size := Heap.lt_size hol
  refine wpAny_pyIter_dict lo hD ?_
  have up : ∀ b o, s₁.heap.get? b = some o → (s₁.heap.push { cls := .type "dict_keyiterator", data := .fields #[.ref d, .int 0 0, .int kvs.length 0, .int ep 0] }).get? b = some o := fun b o e => Heap.get?_push_of_some _ e
  refine block_T (S := fun nw => (d, od) ∈ nw) (Walks.dictKeys (knd := knd) hh s₁.heap.objs.size d (Nat.ne_of_lt hlt) kvs ep) hsz (fun i h st => by obtain ⟨o, e, _⟩ := st.1; exact ⟨o, e⟩)
    (fun i h h' o nw st e e' k N S => ⟨by obtain ⟨o', q, r⟩ := st.1; rw [e] at q; cases q; exact ⟨o, e', r⟩, ?_⟩) hcell hkind hx ⟨⟨_, Heap.get?_push_size _ rfl, rfl, rfl⟩, hD.push _⟩ (fun b hb => ?_)
      (F.keeps up) (N.grown up) (Nat.ne_of_lt F.ns.lt) (next_is_new F) (fun p hp => Nat.ne_of_lt (Heap.lt_size (N p hp).1)) hm (R _ ⟨_, rfl⟩) ?_
  · obtain ⟨o₁, es, a1, a2⟩ := hD
    rw [hol] at a1
    cases a1
    exact ⟨od, es, (N _ S).1, a2⟩
  · show b < (s₁.heap.push _).objs.size
    rw [Heap.size_push]
    rcases List.mem_cons.mp hb with rfl | hb
    · exact Nat.lt_succ_self _
    · rw [List.mem_singleton.mp hb]; exact Nat.lt_succ_of_lt hlt
  · intro D C h tk m' ys news' F' N' o1 hn hC₀ hD₀ hCL hDL hCD offC fin
    refine ⟨m', hn, fun h'' hs'' => fin D h'' tk (F'.change hs'' hCL hC₀) (fun p hp => ?_) o1⟩
    refine ⟨hs''.extBut _ _ ?_ (N' p hp).1, (N' p hp).2⟩
    rcases List.mem_cons.mp hp with rfl | hp
    · exact Ne.symm hCD
    · exact offC p hp
end
end Mine
end
section
open PySem PySem.W PyProof.Rows
namespace Mine
theorem Reach.snoc {kids : Str → List Str} {n x c : Str} (h : Reach kids n x) (hc : c ∈ kids x) : Reach kids n c := by
  induction h with
  | refl n => exact .step hc (.refl _)
  | step hk _ ih => exact .step hk (ih hc)

/-- what a filtering turn by turn picks -/
def pick {α : Type} (K : List α) (q : α → Bool) (j : Nat) : Bool := match K[j]? with | some c => q c | none => false
theorem pick_some {α : Type} {K : List α} {q : α → Bool} {j : Nat} {c : α} (h : K[j]? = some c) : pick K q j = q c := by unfold pick; rw [h]
theorem sel_take {α : Type} (K : List α) (q : α → Bool) (d : α) : ∀ n, n ≤ K.length → ((List.range n).filter (pick K q)).map (fun j => K.getD j d) = (K.take n).filter q := by
  intro n
  induction n with
  | zero => intro _; simp
  | succ n ih =>
    intro hn
    have hlt : n < K.length := hn
    rw [range_succ_filter, List.map_append, ih (Nat.le_of_succ_le hn), List.take_add_one, List.filter_append]
    congr 1
    have e : K[n]? = some K[n] := by simp [hlt]
    have e2 : pick K q n = q K[n] := pick_some e
    rw [e, e2]
    by_cases h : q K[n] = true
    · simp [h, hlt, List.getD_eq_getElem?_getD]
    · simp [h]
theorem sel_eq {α : Type} (K : List α) (q : α → Bool) (d : α) {n : Nat} (hn : n = K.length) : ((List.range n).filter (pick K q)).map (fun j => K.getD j d) = K.filter q := by
  rw [sel_take K q d n (Nat.le_of_eq hn), hn, List.take_length]

/-- the word of the search for all heirs -/
structure HeOk (names : List Str) (kids : Str → List Str) (n : Str) (fs : List Str) (i : Nat) : Prop where
  nodup : fs.Nodup
  reach : ∀ x ∈ fs, x ∈ names ∧ Reach kids n x
  start : n ∈ fs
  le : i ≤ fs.length
  closed : ∀ j, j < i → ∀ x, fs[j]? = some x → ∀ c ∈ kids x, c ∈ fs

theorem HeOk.one {names : List Str} {kids : Str → List Str} {n : Str} (hn : n ∈ names) : HeOk names kids n [n] 0 :=
  ⟨by simp, fun x hx => by rw [List.mem_singleton.mp hx]; exact ⟨hn, .refl _⟩, List.mem_singleton.mpr rfl, Nat.zero_le _, fun j hj => absurd hj (Nat.not_lt_zero _)⟩

theorem HeOk.next {names : List Str} {kids : Str → List Str} {n x : Str} {fs : List Str} {i : Nat} (hks : ∀ n ∈ names, ∀ k ∈ kids n, k ∈ names) (hkn : ∀ n ∈ names, (kids n).Nodup) (h : HeOk names kids n fs i) (hx : fs[i]? = some x) :
    HeOk names kids n (fs ++ (kids x).filter fun c => !(fs.any (· == c))) (i + 1) := by
  have hlt : i < fs.length := by
    rcases Nat.lt_or_ge i fs.length with h | h
    · exact h
    · rw [List.getElem?_eq_none h] at hx; cases hx
  have hxm := h.reach x (List.mem_of_getElem? hx)
  have hin : ∀ c, c ∈ (kids x).filter (fun c => !(fs.any (· == c))) ↔ c ∈ kids x ∧ c ∉ fs := by
    intro c
    simp only [List.mem_filter, Bool.not_eq_true', List.any_eq_false, beq_iff_eq]
    exact ⟨fun ⟨a, b⟩ => ⟨a, fun hc => b c hc rfl⟩, fun ⟨a, b⟩ => ⟨a, fun y hy e => b (e ▸ hy)⟩⟩
  refine ⟨?_, ?_, List.mem_append.mpr (.inl h.start), by rw [List.length_append]; omega, ?_⟩
  · refine List.nodup_append.mpr ⟨h.nodup, (hkn x hxm.1).filter _, fun a ha b hb e => ?_⟩
    subst e
    exact ((hin a).mp hb).2 ha
  · intro y hy
    rcases List.mem_append.mp hy with hy | hy
    · exact h.reach y hy
    · have := (hin y).mp hy
      exact ⟨hks x hxm.1 y this.1, hxm.2.snoc this.1⟩
  · intro j hj y hy c hc
    rcases Nat.lt_or_ge j i with hji | hji
    · rw [List.getElem?_append_left (by omega)] at hy
      exact List.mem_append.mpr (.inl (h.closed j hji y hy c hc))
    · obtain rfl : j = i := by omega
      rw [List.getElem?_append_left hlt, hx] at hy
      cases hy
      by_cases hcf : c ∈ fs
      · exact List.mem_append.mpr (.inl hcf)
      · exact List.mem_append.mpr (.inr ((hin c).mpr ⟨hc, hcf⟩))

theorem HeOk.all {names : List Str} {kids : Str → List Str} {n : Str} {fs : List Str} {i : Nat} (h : HeOk names kids n fs i) (hi : fs.length ≤ i) (x : Str) : x ∈ fs ↔ Reach kids n x := by
  refine ⟨fun hx => (h.reach x hx).2, fun hr => ?_⟩
  have key : ∀ a y, Reach kids a y → a ∈ fs → y ∈ fs := by
    intro a y ha
    induction ha with
    | refl _ => exact id
    | step hk _ ih =>
      intro hm
      obtain ⟨j, hj, e⟩ := List.getElem_of_mem hm
      exact ih (h.closed j (Nat.lt_of_lt_of_le hj hi) _ (by simp [hj, e]) _ hk)
  exact key n x hr h.start
end Mine
end
section
open PySem PySem.W PyProof.Rows PySem.Calls PySem.Spec
set_option maxRecDepth 100000
set_option rowWalk.seconds 0
namespace Mine
theorem fresh_he : True := by
  w_top off
  trivial
/-- the table of heirs: a dict of the ledger, its lists in the ledger or of the top's -/
structure HeirsIn (prog : Program) (w : World) (h₀ : Heap) (news : List (Addr × Obj)) (dh : Addr) (oh : Obj) (kvs : List (Str × Value)) (names : List Str) (kids : Str → List Str) : Prop where
  mem : (dh, oh) ∈ news
  dict : oh.IsDictOf (PySem.strKind prog w) kvs
  low : (dh == sysModules) = false
  at_ : ∀ n ∈ names, ∃ (l : Addr) (its : List Value), valueAt kvs n = some (.ref l) ∧ LCg.SrcAt h₀ l its.toArray news ∧ StrsAre its (kids n)

def HeTells (prog : Program) (w : World) (p : Program) (loose : List Str) (mean : ExcName → Option Value) (mg mb : Str → Option Value) (names : List Str) (kids : Str → List Str) (n : Str) : Prop :=
  ∀ (dp un : Nat) (gd : Option (List Code)) (cn : Str) (cs : Scope) (a : Addr) (ccd : Value) (cl : List (Str × Addr)) (outer : List Env) (A₀ : Around) (base h₀ : Heap) (L : Addr) (m : Str → Option Value) (news : List (Addr × Obj)) (s : Shared)
    (Q E : Value → Shared → Prop) (dh : Addr) (oh : Obj) (kvs : List (Str × Value)) (tn : Tok),
    Below A₀ base outer h₀ → Fr h₀ L s.heap m → (topHead.heap_39 w.params).In h₀ → News h₀ L s.heap news → Top p loose mean mg mb h₀ → cs.kind = .function →
    HeirsIn prog w h₀ news dh oh kvs names kids → dp + 12 < recursionLimit → un + 80 < cLine →
    (∀ D ys lk fs h' tk', StrsAre ys fs → (∀ x, x ∈ fs ↔ Reach kids n x) → Fr h₀ L h' m → News h₀ L h' ((D, listOf ys.toArray lk) :: news) → (∀ q ∈ news, q.1 ≠ D) → Q (.ref D) { s with heap := h', toks := tk' }) →
    wpAny (model prog w) (ktrTop dp un gd cn cs L a ccd cl outer) (call (.ref 293) [.ref dh, .str n tn]) Q E s

local macro_rules | `(tactic| walk_at "exec While Compare") => `(tactic| refine halt ?_)
local macro_rules | `(tactic| walk_at "eval ListComp") => `(tactic| refine halt ?_)
section
variable {prog : Program} {w : World} {A : Around} {E : Value → Shared → Prop} {s : Shared} {h₀ : Heap} {L : Addr} {m : Str → Option Value} {news : List (Addr × Obj)}
theorem item_at {value slice : PySem.Expr} {a : Addr} {l : List Value} {nn : Nat} {ys : List Str} {i : Nat} {u : Tok} {y : Str} {Q : Value → Shared → Prop} (N : News h₀ L s.heap news) (hm : (a, listOf l.toArray nn) ∈ news) (hi : StrsAre l ys)
    (hy : ys[i]? = some y) (hfit : (ys.length : Int) < 9223372036854775808) (h : ∀ t', Q (.str y t') s)
    (hs : subscripted slice false (.ref a) (.int (i : Int) u) = operate [.ref a, .int (i : Int) u] (getItem (.ref a) (.int (i : Int) u)) := by with_unfolding_all rfl) (hg : ∀ r, letTemporaryGo value (.ref a) r = pure () := by intro _; with_unfolding_all rfl) :
    wpAny (model prog w) A (subscriptTail value slice (.ref a) (.int (i : Int) u)) Q E s := by
  have hlt : i < ys.length := by
    rcases Nat.lt_or_ge i ys.length with h | h
    · exact h
    · rw [List.getElem?_eq_none h] at hy; cases hy
  have e : ys.getD (i : Int).toNat Str.empty = y := by
    show ys.getD i Str.empty = y
    rw [List.getD_eq_getElem?_getD, hy]; rfl
  exact item_strsA (k := (i : Int)) (N.isList hm) hi (by omega) (by omega) (by omega) (fun t' => e ▸ h t') hs hg
end
local macro_rules | `(tactic| k_mem) => `(tactic| first | exact List.mem_cons_self | (refine List.mem_cons_of_mem _ ?_; k_mem) | assumption)
local macro_rules | `(tactic| walk_at "call builtin:len") => `(tactic| (k_here; (with_reducible show wpAny _ _ (call (Value.builtin "len") [Value.ref _]) _ _ _); k_dflt (refine' len_strsA ?a ?b ?c ?_; (case a => exact News.isList (by k_asm) (by k_mem)); (case b => assumption); (case c => assumption); k_whole)))
local macro_rules | `(tactic| walk_at "subscriptTail Name Name ref int") => `(tactic| (k_here; (with_reducible show wpAny _ _ (subscriptTail _ _ (Value.ref _) (Value.int _ _)) _ _ _); k_dflt (refine' item_at ?N ?m ?a ?b ?c ?_; (case N => k_asm); (case m => k_mem); (case a => assumption); (case b => assumption); (case c => assumption); k_whole; intro t9')))
local macro_rules | `(tactic| walk_at "subscriptTail Name Subscript ref str") => `(tactic| (k_here; (with_reducible show wpAny _ _ (subscriptTail _ _ (Value.ref _) (Value.str _ _)) _ _ _); k_dflt (refine kda_item (knd := PySem.strKind _ _) (by k_asm) (by k_mem) (by k_asm) (strKind_is _ _ _ _) (by assumption) ?_)))
local macro_rules | `(tactic| walk_at "compareOp NotIn str ref") => `(tactic| (k_here; k_dflt (refine' notin_list_strs ?a ?b ?_; (case a => exact News.isList (by k_asm) (by k_mem)); (case b => assumption); k_whole)))
local macro_rules | `(tactic| walk_at "CompSrcT") => `(tactic| refine halt ?_)
local macro_rules | `(tactic| walk_at "binaryOp Add ref ref") => `(tactic| refine halt ?_)
local macro_rules | `(tactic| walk_at "StrV") => `(tactic| refine halt ?_)
theorem nodup_le {names : List Str} : ∀ {fs : List Str}, fs.Nodup → (∀ x ∈ fs, x ∈ names) → fs.length ≤ names.length := by
  induction names with
  | nil =>
    intro fs _ h
    cases fs with
    | nil => exact Nat.le_refl _
    | cons a r => exact absurd (h a (.head _)) (List.not_mem_nil)
  | cons b r ih =>
    intro fs hd h
    have h1 : (fs.filter (· != b)).length ≤ r.length := ih (hd.filter _) fun x hx => by
      have := List.mem_filter.mp hx
      rcases List.mem_cons.mp (h x this.1) with e | e
      · simp [e] at this
      · exact e
    have h2 : fs.length ≤ (fs.filter (· != b)).length + 1 := by
      clear h1 ih h
      induction fs with
      | nil => simp
      | cons a q ih =>
        by_cases e : a = b
        · subst e
          have hq : q.filter (· != a) = q := List.filter_eq_self.mpr fun x hx => by
            have := (List.nodup_cons.mp hd).1
            simp only [bne_iff_ne, ne_eq]
            intro e; exact this (e ▸ hx)
          simp [hq]
        · have := ih (List.nodup_cons.mp hd).2
          simp only [List.filter_cons, bne_iff_ne, ne_eq, e, not_false_eq_true, if_true, List.length_cons]
          omega
    rw [List.length_cons]
    omega
theorem ends_names {m₁ : Str → Option Value} {x y : Str} {a b : Value} (h1 : m₁ x = some a) (h2 : m₁ y = some b) : m₁ = fun z => if z = x then some a else if z = y then some b else m₁ z := by
  funext z
  by_cases e : z = x
  · rw [if_pos e, e, h1]
  · rw [if_neg e]
    by_cases e2 : z = y
    · rw [if_pos e2, e2, h2]
    · rw [if_neg e2]
theorem whlIf_split {b : Bool} {T F : Prop} (h : b = true → T) (h' : b = false → F) : WhlIf b T F := by
  cases b with
  | true => exact WhlIf.yes rfl (h rfl)
  | false => exact WhlIf.no rfl (h' rfl)
local macro_rules | `(tactic| walk_at "WhlIf") => `(tactic| (refine whlIf_split ?_ ?_; all_goals (intro htest9)))

def HeJ (names : List Str) (kids : Str → List Str) (n : Str) (dh L1 : Addr) (news : List (Addr × Obj)) (k : Nat) (m₁ : Str → Option Value) (nx : List (Addr × Obj)) : Prop :=
  ∃ (fs : List Str) (ys : List Value) (D : Addr) (lk i : Nat) (ta : Tok) (oc : Obj), nx = (D, listOf ys.toArray lk) :: (L1, oc) :: news ∧ oc.data = .cell (some (.ref D)) ∧
    m₁ (Str.ofString "at") = some (.int (i : Int) ta) ∧ m₁ (Str.ofString "heirs") = some (.ref dh) ∧ StrsAre ys fs ∧ HeOk names kids n fs i ∧ k = names.length - i ∧ (∀ q ∈ news, q.1 ≠ D)
set_option maxHeartbeats 0 in
theorem he_tells {prog : Program} {w : World} {p : Program} {loose : List Str} {mean : ExcName → Option Value} {mg mb : Str → Option Value} {names : List Str} {kids : Str → List Str} (hnd : names.Nodup) (hlen : names.length ≤ 20)
    (hks : ∀ n ∈ names, ∀ k ∈ kids n, k ∈ names) (hkn : ∀ n ∈ names, (kids n).Nodup) {n : Str} (hn : n ∈ names) : HeTells prog w p loose mean mg mb names kids n := by
  have hfill : (topHead.heap_39 w.params).In ({} : Heap) → PySem.Challenge.rw_ez0375_01 = PySem.Challenge.rw_ez0375_01 := by k_fill; intro _; rfl
  clear hfill
  intro dp un gd cn cs a ccd cl outer A₀ base h₀ L m news s Q E dh oh kvs tn B F X N T hk HI hdp hun hret
  refine wpAny_call ?_
  k_dflt (refine' code_defC (binds := [(Str.ofString "heirs", .ref dh), (Str.ofString "name", .str n tn)]) ?k1 ?k2 ?k3 ?k4 ?k5 ?kA ?kF ?kK ?k6 ?k7 ?k8 ?k9 ?kB ?kD ?_ ?c2 ?c3 ?c4; (case kA => exact rfl); (case kF => exact rfl); (case kK => assumption); (case k1 => k_asm); (case k2 => k_asm); (case k3 => k_asm); (case k4 => k_asm); (case k5 => k_asm); (case k6 => k_is); (case k7 => k_is); (case k8 => ktr_room); (case k9 => exact BindsTo.of_eq rfl); (case kB => exact rfl); (case kD => decide +kernel); (case c2 => exact rfl); (case c3 => exact rfl); (case c4 => exact rfl); k_whole; intro g' L' h' tk' cells' FG' F' N' Y' B' X' T' l1; (have l2 : AllLt (L' + 1) news := allLt_of fun p hp => Nat.lt_succ_of_lt (l1 p hp)); (try k_lt l1); k_cells Y'; (try simp only [List.cons_append, List.nil_append] at N'); (try dsimp only); (try k_fold))
  k_steps
  show wpAny _ _ _ _ _ _
  (rename Fr _ _ _ _ => F9)
  (rename News _ _ _ _ => N9)
  (rename Obj => oc9)
  (rename _ = Data.cell _ => dc9)
  (rename @LT.lt Nat _ (L' + 1) _ ∧ AllLt _ news => lt9)
  refine loop_while (HeJ names kids n dh (L' + 1) news) names.length (by first | passes_own | with_unfolding_all passes_own) F9 (fun p hp => N9 p (.tail _ hp))
    ⟨[n], [.str n tn], _, 0, 0, tk', oc9, rfl, dc9, rfl, rfl, .cons _ _ .nil, HeOk.one hn, rfl, fun q hq => Nat.ne_of_lt (tb_ltOf lt9.2 q hq)⟩ ?_
  rintro k m₁ nx h tk ⟨fs, ys, D, lk, i, ta, oc, rfl, hoc, hm1, hm2, hys, hW, rfl, hltD⟩ F₁ N₁
  rw [ends_names hm1 hm2] at F₁
  clear F9 N9 lt9 dc9
  have hfl : fs.length ≤ names.length := nodup_le hW.nodup fun x hx => (hW.reach x hx).1
  have hfi : (fs.length : Int) < 9223372036854775808 := by omega
  have hyl : ys.length = fs.length := hys.len_eq
  k_steps
  · (rename decide _ = true => htest)
    have hlt : i < fs.length := by
      have := of_decide_eq_true htest
      omega
    obtain ⟨x, hx⟩ : ∃ x, fs[i]? = some x := ⟨fs[i], by simp [hlt]⟩
    have hxn := hW.reach x (List.mem_of_getElem? hx)
    show wpAny _ _ _ _ _ _
    obtain ⟨l, its, hv1, hS1, hst1⟩ := HI.at_ x hxn.1
    have hkl : (kids x).length ≤ names.length := nodup_le (hkn x hxn.1) (hks x hxn.1)
    have hil2 : its.length = (kids x).length := hst1.len_eq
    have hdm := HI.mem
    have hdd := HI.dict
    (rename Fr _ _ _ _ => F2)
    (rename News _ _ _ _ => N2)
    refine LCt.ListComp_T (F₀ := F2) (cl := [(Str.ofString "found", L' + 1)]) (by with_unfolding_all rfl) (by decide) (by rfl) (by decide) (by rfl) ?_
    k_steps
    show LCt.CompSrcT _ _ _ _ _ _ _ _ _ _ _ _ _ _ _
    have hS3 : LCg.SrcAt g' l its.toArray ((D, listOf ys.toArray lk) :: (L' + 1, oc) :: news) := hS1.elim (fun h => .inl (h.at fun o e => FG'.keep _ _ e)) fun ⟨o, hm, r⟩ => .inr ⟨o, .tail _ (.tail _ hm), r⟩
    refine .inl ⟨l, its.toArray, _, rfl, rfl, F2, N2, hS3, by rw [List.size_toArray, sizeLine_eq]; omega, ?_⟩
    rintro s₂ ⟨hp, rfl⟩
    refine rest_T (pick (kids x) fun c => !(fs.any (· == c))) (fun j y => StrV ((kids x).getD j Str.empty) y) hS3 ?_ ?_
    · intro j v I oI C oC D' ys' m₂ h₂ tk₂ E' hj hP hC hx' F4 N4 off ne
      obtain ⟨c, tc, rfl, hc⟩ := hst1.item j v (by simpa using hP)
      clear F2 N2
      dsimp only
      k_steps
      · exact (pick_some (q := fun c => !(fs.any (· == c))) hc).symm
      · exact ⟨_, _, rfl, by k_asm, by k_asm⟩
      · show StrV _ _
        rw [List.getD_eq_getElem?_getD, hc]
        exact .of
      · exact ⟨_, _, rfl, by k_asm, by k_asm⟩
    · intro ys₂ hy2 D₂ h₃ tk₃ F3 N3 off3
      clear F2 N2
      have hst2 := All2.strs (f := fun j => (kids x).getD j Str.empty) hy2
      rw [sel_eq (kids x) (fun c => !(fs.any (· == c))) Str.empty (by rw [List.size_toArray, hil2])] at hst2
      have hW2 := hW.next hks hkn hx
      have hyl2 : ys₂.length = _ := hst2.len_eq
      have hyl3 : ((kids x).filter fun c => !(fs.any (· == c))).length ≤ (kids x).length := List.length_filter_le _ _
      k_steps
      show wpAny _ _ _ _ _ _
      refine add_two (keep := (L' + 1, oc) :: news) F3 N3 (.tail _ (.head _)) (.head _) (fun p hp => .tail _ (.tail _ hp)) (by rw [sizeLine_eq]; omega) ?_
      intro D3 h4 F5 N5 hlt5
      clear F3 N3
      have lt6 : @LT.lt Nat _ (L' + 1) D3 := hlt5 _ (.head _)
      have lt7 : ∀ q ∈ news, q.1 ≠ D3 := fun q hq => Nat.ne_of_lt (hlt5 q (.tail _ hq))
      k_steps
      (rename Fr _ _ _ _ => F8)
      (rename News _ _ _ _ => N8)
      (rename _ = Data.cell _ => dc8)
      exact WPost.next ⟨_, _, _, _, rfl, F8, N8, names.length - (i + 1), by omega, fs ++ _, ys ++ ys₂, D3, 0, i + 1, _, _, rfl, dc8, rfl, rfl, hys.append' hst2, hW2, rfl, lt7⟩
  · (rename decide _ = false => htest)
    have hge : fs.length ≤ i := by
      have := of_decide_eq_false htest
      omega
    (rename Fr _ _ _ _ => F8)
    (rename News _ _ _ _ => N8)
    refine hret D ys lk fs _ tk hys (hW.all hge) F8 (fun p hp => ?_) hltD
    rcases List.mem_cons.mp hp with rfl | hp
    · exact N8 _ (.head _)
    · exact N8 p (.tail _ (.tail _ hp))
end Mine
end
section
open PySem PySem.W PyProof.Rows PySem.Calls PySem.Spec
set_option maxRecDepth 100000
namespace Mine
section
variable {prog : Program} {w : World} {A : Around} {E : Value → Shared → Prop} {s : Shared}
theorem pyHash_none {Q : Int → Shared → Prop} (h : Q 4238894112 { s with toks := s.toks + 1 }) : wpAny (model prog w) A (pyHash .none) Q E s := by
  unfold pyHash
  have hv : [Value.none].any Value.onHeap = false := rfl
  have hT : s.TypeIs .none "NoneType" := rfl
  refine wpAny_bind ?_
  rw [cRoomFor, if_neg (by rw [hv]; exact Bool.false_ne_true)]; refine wpAny_pure ?_
  refine wpAny_bind (wpAny_specialOf hT F.slot_NoneType_hash.lookup ?_)
  refine wpAny_bind (wpAny_specialOf hT F.slot_NoneType_hash.lookup ?_)
  refine wpAny_bind (wpAny_callSpecialIfBoundUnlessNone?_slot hT F.slot_NoneType_hash
    (wpAny_call_entry F.slot_NoneType_hash hT F.entry_NoneType_hash
      (show wpAny _ _ (do ret (← mkInt 0xFCA86420)) _ _ s from wpAny_ret_mkInt ?_) (F.args_NoneType_hash_1 _)))
  exact wpAny_pure h
end
/-- the keys of the table of namespaces: a text or None -/
def nsIs : Option Str → Value → Bool
  | some x, v => Value.isStrOf x v
  | none, .none => true
  | none, _ => false
theorem nsIs_none {v : Value} (h : nsIs none v = true) : v = .none := by cases v <;> simp_all [nsIs]
def nsKind (prog : Program) (w : World) : KeyKind prog w (Option Str) where
  is := nsIs
  hash := fun k => match k with | some x => hashStr w x | none => 4238894112
  inj := fun v a b ha hb => by
    cases a with
    | none =>
      cases nsIs_none ha
      cases b with
      | none => rfl
      | some y => exact absurd hb (by simp [nsIs, Value.isStrOf])
    | some x =>
      obtain ⟨t, rfl⟩ := Value.isStrOf_shape ha
      cases b with
      | none => cases nsIs_none hb
      | some y =>
        have hb' : Value.isStrOf y (.str x t) = true := hb
        obtain ⟨u, hu⟩ := Value.isStrOf_shape hb'
        injection hu with e _
        rw [e]
  byValue := fun k v h => by
    cases k with
    | none => cases nsIs_none h; rfl
    | some x => obtain ⟨t, rfl⟩ := Value.isStrOf_shape h; rfl
  pyHash := fun {_ _ _ k _ _} hv h => by
    cases k with
    | none => cases nsIs_none hv; exact pyHash_none h
    | some x => obtain ⟨t, rfl⟩ := Value.isStrOf_shape hv; exact wpAny_pyHash_str h
  eqBool := fun {_ _ _ a b _ _ _} hu hv h => by
    cases a with
    | none =>
      cases nsIs_none hu
      cases b with
      | none =>
        cases nsIs_none hv
        unfold eqBool
        rw [if_pos (by rfl)]
        exact wpAny_bind (wpAny_rule (wpAny_pure (by simpa using h)))
      | some y =>
        obtain ⟨u, rfl⟩ := Value.isStrOf_shape hv
        exact SeqAt.EqAt.none_str _ _ _ _ _ _ (by simpa using h)
    | some x =>
      obtain ⟨t, rfl⟩ := Value.isStrOf_shape hu
      cases b with
      | none => cases nsIs_none hv; exact SeqAt.EqAt.str_none _ _ _ _ _ _ (by simpa using h)
      | some y =>
        obtain ⟨u, rfl⟩ := Value.isStrOf_shape hv
        exact wpAny_eqBool_str (by simpa using h)
  «strs» := fun k x t v h => by
    cases k with
    | none => cases nsIs_none h
    | some y => exact (strKind prog w).«strs» y x t v h
theorem ns_str (prog : Program) (w : World) (x : Str) (t : Tok) : (nsKind prog w).is (some x) (.str x t) = true := by simp [nsKind, nsIs, Value.isStrOf]
theorem ns_none (prog : Program) (w : World) : (nsKind prog w).is none .none = true := rfl
theorem ns_empty {prog : Program} {w : World} {o : Obj} (h : o.IsDictOf (PySem.strKind prog w) []) : o.IsDictOf (nsKind prog w) [] := by
  obtain ⟨es, ep, hx, hd, _, hp, _⟩ := h
  cases es with
  | mk l =>
    cases hp
    exact ⟨_, ep, hx, hd, fun e he => absurd he (by simp), .nil, .nil⟩
section
variable {prog : Program} {w : World} {A : Around} {E : Value → Shared → Prop} {s : Shared} {h₀ : Heap} {L : Addr} {news : List (Addr × Obj)}
theorem eq_none_none (A : Around) (s : Shared) : SeqAt.EqAt A s .none .none true := fun prog w E Q h => by
  unfold eqBool
  rw [if_pos (by rfl)]
  exact wpAny_bind (wpAny_rule (wpAny_pure h))
theorem in_base_none {l : Addr} {x : Str} {t : Tok} {k : Nat} {Q : Value → Shared → Prop} (N : News h₀ L s.heap news) (hm : (l, listOf #[.str x t, .none] k) ∈ news) (h : Q (.bool true) s) :
    wpAny (model prog w) A (compareOp .In .none (.ref l)) Q E s := by
  refine SeqAt.in_listAt (fun y => match y with | .none => true | _ => false) (N.isList hm) (fun y hy => ?_) ?_
  · simp only [List.mem_toArray, List.mem_cons, List.not_mem_nil, or_false] at hy
    rcases hy with rfl | rfl
    · exact SeqAt.EqAt.str_none _ _
    · exact eq_none_none _ _
  · simpa using h
theorem in_base_str {l : Addr} {x : Str} {t u : Tok} {k : Nat} {Q : Value → Shared → Prop} (N : News h₀ L s.heap news) (hm : (l, listOf #[.str x t, .none] k) ∈ news) (h : Q (.bool true) s) :
    wpAny (model prog w) A (compareOp .In (.str x u) (.ref l)) Q E s := by
  refine SeqAt.in_listAt (fun y => match y with | .str z _ => z == x | _ => false) (N.isList hm) (fun y hy => ?_) ?_
  · simp only [List.mem_toArray, List.mem_cons, List.not_mem_nil, or_false] at hy
    rcases hy with rfl | rfl
    · exact SeqAt.EqAt.str_str _ _ _ _
    · exact SeqAt.EqAt.none_str _ _
  · simpa using h
theorem item_last {value slice : PySem.Expr} {a : Addr} {v : Value} {k : Nat} {u : Tok} {Q : Value → Shared → Prop} (N : News h₀ L s.heap news) (hm : (a, listOf #[v] k) ∈ news) (h : Q v s)
    (hs : subscripted slice false (.ref a) (.int (-1) u) = operate [.ref a, .int (-1) u] (getItem (.ref a) (.int (-1) u)) := by with_unfolding_all rfl) :
    wpAny (model prog w) A (subscriptTail value slice (.ref a) (.int (-1) u)) Q E s :=
  tail_any (N.isList hm).typeIs slot_list_getitem.lookup (wpAny_getItem_list_neg (x := v) (N.isList hm) (by decide) (by simp) (by decide) (by rfl) h) hs
theorem kda_itemA {K : Type} [DecidableEq K] {knd : KeyKind prog w K} {d : Addr} {o : Obj} {kvs : List (K × Value)} {k : K} {key v : Value} {value slice : PySem.Expr} {Q : Value → Shared → Prop} (N : News h₀ L s.heap news) (hp : (d, o) ∈ news) (hd : o.IsDictOf knd kvs) (hkey : knd.is k key = true) (hl : valueAt kvs k = some v)
    (h : Q v { s with toks := s.toks + 1 }) (hs : subscripted slice false (.ref d) key = operate [.ref d, key] (getItem (.ref d) key) := by with_unfolding_all rfl) :
    wpAny (model prog w) A (subscriptTail value slice (.ref d) key) Q E s :=
  have hD := kda_dict N hp hd
  tail_any hD.typeIs slot_dict_getitem.lookup (wpAny_getItem_of hkey hD.mapOf hl h) hs
theorem truthy_cases {a : Addr} {vs : List Value} {k : Nat} {Q : Bool → Shared → Prop} (N : News h₀ L s.heap news) (hm : (a, listOf vs.toArray k) ∈ news) (hl : vs.length ≤ 30)
    (h0 : vs = [] → Q false { s with toks := s.toks + 1 + 1 }) (h1 : vs ≠ [] → Q true { s with toks := s.toks + 1 + 1 }) : wpAny (model prog w) A (truthy (.ref a)) Q E s := by
  refine wpAny_truthy_list (N.isList hm) (by rw [List.size_toArray]; omega) ?_
  cases vs with
  | nil => exact h0 rfl
  | cons v r => exact h1 (by simp)
theorem truthy_yes {a : Addr} {vs : List Value} {k : Nat} {Q : Bool → Shared → Prop} (N : News h₀ L s.heap news) (hm : (a, listOf vs.toArray k) ∈ news) (hl : vs.length ≤ 30) (hne : vs ≠ [])
    (h1 : Q true { s with toks := s.toks + 1 + 1 }) : wpAny (model prog w) A (truthy (.ref a)) Q E s :=
  truthy_cases N hm hl (fun e => absurd e hne) fun _ => h1
end
end Mine
end
section
open PySem PySem.W PyProof.Rows PySem.Calls PySem.Spec
set_option maxRecDepth 100000
set_option rowWalk.seconds 0
namespace Mine
theorem fresh_nc : True := by
  w_top off
  trivial
/-- the dict of the metamodel -/
abbrev mmD (w : World) (t : Nat → Tok) (j : Nat → Value) (dns ls imp : Addr) : Obj :=
  dictOf [en w "file_name" (t 0) .none, en w "rootcls" (t 1) .none, en w "builtins" (t 2) (j 2), en w "builtin_models" (t 3) (j 3), en w "auto_init_attributes" (t 4) (j 4), en w "ignore_case" (t 5) (j 5), en w "skipws" (t 6) (j 6),
    en w "ws" (t 7) (j 7), en w "autokwd" (t 8) (j 8), en w "memoization" (t 9) (j 9), en w "textx_tools_support" (t 10) (j 10), en w "use_regexp_group" (t 11) (j 11), en w "scope_providers" (t 12) (j 12), en w "namespaces" (t 13) (.ref dns),
    en w "_namespace_stack" (t 14) (.ref ls), en w "_imported_namespaces" (t 15) (.ref imp), en w "referenced_languages" (t 16) (j 16)] 17
/-- the metamodel lies in the ledger, its namespace of today is the dict dcur -/
def MmIn (prog : Program) (w : World) (news : List (Addr × Obj)) (mm dns ls imp dcur : Addr) (ns : Option Str) (nsv : Value) : Prop :=
  ∃ (dm : Addr) (t : Nat → Tok) (j : Nat → Value) (ons : Obj) (kvs : List (Option Str × Value)) (k : Nat), (mm, instObj 267 dm) ∈ news ∧ (dm, mmD w t j dns ls imp) ∈ news ∧ (dns, ons) ∈ news ∧ ons.IsDictOf (nsKind prog w) kvs ∧
    (dns == sysModules) = false ∧ valueAt kvs ns = some (.ref dcur) ∧ (nsKind prog w).is ns nsv = true ∧ (ls, listOf #[nsv] k) ∈ news
theorem MmIn.mono {prog : Program} {w : World} {news news' : List (Addr × Obj)} {mm dns ls imp dcur : Addr} {ns : Option Str} {nsv : Value} (h : MmIn prog w news mm dns ls imp dcur ns nsv) (hs : ∀ p ∈ news, p ∈ news') : MmIn prog w news' mm dns ls imp dcur ns nsv := by
  obtain ⟨dm, t, j, ons, kvs, k, a, b, c, d, e, f, g, i⟩ := h
  exact ⟨dm, t, j, ons, kvs, k, hs _ a, hs _ b, hs _ c, d, e, f, g, hs _ i⟩

theorem news4 {h₀ h : Heap} {L : Addr} {led news : List (Addr × Obj)} {a b c d : Addr × Obj} (N : News h₀ L h led) (ha : a ∈ led) (hb : b ∈ led) (hc : c ∈ led) (hd : d ∈ led) (hs : ∀ p ∈ news, p ∈ led) : News h₀ L h (a :: b :: c :: d :: news) := by
  intro p hp
  rcases List.mem_cons.mp hp with rfl | hp
  · exact N _ ha
  rcases List.mem_cons.mp hp with rfl | hp
  · exact N _ hb
  rcases List.mem_cons.mp hp with rfl | hp
  · exact N _ hc
  rcases List.mem_cons.mp hp with rfl | hp
  · exact N _ hd
  exact N _ (hs p hp)
/-- `_new_class(name, None, at, inherits=[...])` -/
def NcTells (prog : Program) (w : World) (p : Program) (loose : List Str) (mean : ExcName → Option Value) (mg mb : Str → Option Value) : Prop :=
  ∀ (dp un : Nat) (gd : Option (List Code)) (cn : Str) (cs : Scope) (a : Addr) (ccd : Value) (cl : List (Str × Addr)) (outer : List Env) (A₀ : Around) (base h₀ : Heap) (L : Addr) (m : Str → Option Value) (news : List (Addr × Obj)) (s : Shared)
    (Q E : Value → Shared → Prop) (mm dns ls imp dcur lj : Addr) (ocur : Obj) (kvs : List (Str × Value)) (nm : Str) (tn : Tok) (at_ : Int) (ta : Tok) (vs : List Value) (kj : Nat),
    Below A₀ base outer h₀ → Fr h₀ L s.heap m → (topHead.heap_39 w.params).In h₀ → News h₀ L s.heap ((dcur, ocur) :: news) → Top p loose mean mg mb h₀ → cs.kind = .function →
    MmIn prog w news mm dns ls imp dcur none .none → ocur.IsDictOf (PySem.strKind prog w) kvs → (∀ q ∈ news, q.1 ≠ dcur) → kvs.length ≤ 30 → (lj, listOf vs.toArray kj) ∈ news → vs.length ≤ 30 → dp + 20 < recursionLimit → un + 200 < cLine →
    (∀ c dc li kl ocur' t j u v h' tk', Fr h₀ L h' m → News h₀ L h' ((c, instObj 52 dc) :: (dc, clsD w t j nm u v li) :: (li, listOf vs.toArray kl) :: (dcur, ocur') :: news) → ocur'.IsDictOf (PySem.strKind prog w) (stored kvs nm (.ref c)) →
      (∀ q ∈ news, q.1 < c) → (∀ q ∈ news, q.1 < dc) → (@LT.lt Nat _ dcur c) → (@LT.lt Nat _ dcur dc) → (li = lj ∨ ∀ q ∈ news, q.1 ≠ li) → Q (.ref c) { s with heap := h', toks := tk' }) →
    wpAny (model prog w) (ktrTop dp un gd cn cs L a ccd cl outer) (call (.ref 212) [.ref mm, .str nm tn, .none, .int at_ ta] [(Str.ofString "inherits", .ref lj)]) Q E s

local macro_rules | `(tactic| k_mem) => `(tactic| first | exact List.mem_cons_self | (refine List.mem_cons_of_mem _ ?_; k_mem) | assumption)
local macro_rules | `(tactic| k_all) => `(tactic| with_reducible assumption)
local macro_rules | `(tactic| k_room) => `(tactic| ktr_room)
local macro_rules | `(tactic| walk_at "truthy ref") => `(tactic| (k_here; k_dflt (refine' truthy_cases ?N ?m ?l ?_ ?_; (case N => k_asm); (case m => k_mem); (case l => assumption); k_whole); all_goals (intro hvs9)))
local macro_rules | `(tactic| walk_at "compareOp In none ref") => `(tactic| (k_here; k_dflt (refine' in_base_none ?N ?m ?_; (case N => k_asm); (case m => k_mem); k_whole)))
local macro_rules | `(tactic| walk_at "compareOp In str ref") => `(tactic| (k_here; k_dflt (refine' in_base_str ?N ?m ?_; (case N => k_asm); (case m => k_mem); k_whole)))
local macro_rules | `(tactic| walk_at "subscriptTail Attribute UnaryOp ref int") => `(tactic| (k_here; k_dflt (refine' item_last ?N ?m ?_; (case N => k_asm); (case m => k_mem); k_whole)))
local macro_rules | `(tactic| walk_at "subscriptTail Attribute Name UnaryOp ref int") => `(tactic| (k_here; k_dflt (refine' item_last ?N ?m ?_; (case N => k_asm); (case m => k_mem); k_whole)))
local macro_rules | `(tactic| walk_at "subscriptTail Attribute Subscript ref none") => `(tactic| (k_here; k_dflt (refine kda_itemA (knd := nsKind _ _) (by k_asm) (by k_mem) (by k_asm) (ns_none _ _) (by k_asm) ?_)))
local macro_rules | `(tactic| walk_at "subscriptTail Attribute Name Subscript ref none") => `(tactic| (k_here; k_dflt (refine kda_itemA (knd := nsKind _ _) (by k_asm) (by k_mem) (by k_asm) (ns_none _ _) (by k_asm) ?_)))
local macro_rules | `(tactic| walk_at "setItem ref str ref") => `(tactic| (k_here; k_dflt (refine' kda_set (knd := PySem.strKind _ _) ?F ?N ?U ?d (strKind_is _ _ _ _) ?z ?_; (case F => k_asm); (case N => k_asm); (case U => k_updF); (case d => k_asm); (case z => rw [sizeLine_eq]; omega)); intro h' o' F' N' hd'; (try dsimp only at N')))
set_option maxHeartbeats 0 in
theorem nc_tells {prog : Program} {w : World} {p : Program} {loose : List Str} {mean : ExcName → Option Value} {mg mb : Str → Option Value} : NcTells prog w p loose mean mg mb := by
  have hfill : (topHead.heap_39 w.params).In ({} : Heap) → PySem.Challenge.rw_ez0375_01 = PySem.Challenge.rw_ez0375_01 := by k_fill; intro _; rfl
  clear hfill
  intro dp un gd cn cs a ccd cl outer A₀ base h₀ L m news s Q E mm dns ls imp dcur lj ocur kvs nm tn at_ ta vs kj B F X N T hk hM hD hne hkl hj hvl hdp hun hret
  obtain ⟨dm, t, j, ons, nkv, k, hm1, hm2, hm3, hm4, hm5, hm6, hm7, hm8⟩ := hM
  refine wpAny_call ?_
  k_dflt (refine' code_def (binds := [(Str.ofString "self", .ref mm), (Str.ofString "name", .str nm tn), (Str.ofString "peg_rule", .none), (Str.ofString "position", .int at_ ta), (Str.ofString "position_end", .none), (Str.ofString "inherits", .ref lj), (Str.ofString "root", .bool false), (Str.ofString "rule_type", .str (Str.ofString "match") 216)]) ?k1 ?k2 ?k3 ?k4 ?k5 ?kA ?kF ?kK ?k6 ?k7 ?k8 ?k9 ?kB ?_ ?c2 ?c3 ?c4 ?c5; (case kA => exact rfl); (case kF => exact rfl); (case kK => first | exact rfl | assumption); (case k1 => k_asm); (case k2 => k_asm); (case k3 => k_asm); (case k4 => k_asm); (case k5 => k_asm); (case k6 => k_is); (case k7 => k_is); (case k8 => k_room); (case k9 => exact binds_K (by k_in) rfl (by k_is) rfl rfl rfl); (case c5 => decide); (case kB => exact locs rfl); (case c2 => exact rfl); (case c3 => exact rfl); (case c4 => exact rfl); k_whole; intro g' L' h' FG' F' N' B' X' T'; (try dsimp only); (try k_lift B'); (try k_fold))
  k_steps
  · (rename Fr _ _ _ _ => F9)
    (rename News _ _ _ _ => N9)
    (rename Obj.IsDictOf (PySem.strKind _ _) _ (stored _ _ _) => hd9)
    (rename vs = [] => hv0)
    subst hv0
    (rename @LT.lt Nat _ _ _ => l9)
    have N10 := news4 (news := news) (a := (_, instObj 52 _)) (b := (_, clsD w (fun i => [_, _, _, _, _, _, _, _, _, _].getD i 0) (fun i => [.none, .none, _, _, _, _, _, _, _].getD i .none) nm _ _ _)) (c := (_, listOf #[] _)) (d := (dcur, _)) N9 (by k_mem) (by k_mem) (by k_mem) (by k_mem) (by intro p hp; repeat (first | exact hp | refine List.mem_cons_of_mem _ ?_))
    exact hret _ _ _ _ _ _ _ _ _ _ _ F9 N10 hd9 (fun q hq => Nat.lt_trans (tb_ltOf (by tbn_find) q hq) l9) (fun q hq => tb_ltOf (by tbn_find) q hq) (by omega) (by omega) (.inr fun q hq => Nat.ne_of_lt (tb_ltOf (by tbn_find) q hq))
  · (rename Fr _ _ _ _ => F9)
    (rename News _ _ _ _ => N9)
    (rename Obj.IsDictOf (PySem.strKind _ _) _ (stored _ _ _) => hd9)
    (rename @LT.lt Nat _ _ _ => l9)
    have N10 := news4 (news := news) (a := (_, instObj 52 _)) (b := (_, clsD w (fun i => [_, _, _, _, _, _, _, _, _, _].getD i 0) (fun i => [.none, .none, _, _, _, _, _, _, _].getD i .none) nm _ _ _)) (c := (_, listOf vs.toArray _)) (d := (dcur, _)) N9 (by k_mem) (by k_mem) (by k_mem) (by k_mem) (by intro p hp; repeat (first | exact hp | refine List.mem_cons_of_mem _ ?_))
    exact hret _ _ _ _ _ _ _ _ _ _ _ F9 N10 hd9 (fun q hq => Nat.lt_trans (tb_ltOf (by tbn_find) q hq) l9) (fun q hq => tb_ltOf (by tbn_find) q hq) (by omega) (by omega) (.inl rfl)
end Mine
end
section
open PySem PySem.W PyProof.Rows PySem.Calls PySem.Spec
set_option maxRecDepth 100000
set_option rowWalk.seconds 0
namespace Mine
theorem fresh_pc : True := by
  w_top off
  trivial
/-- the dict of a parsing expression -/
abbrev pegD (w : World) (t : Nat → Tok) (j : Nat → Value) : Obj :=
  dictOf [en w "to_match" (t 0) (j 0), en w "rule_name" (t 1) (j 1), en w "root" (t 2) (j 2), en w "nodes" (t 3) (j 3), en w "suppress" (t 4) (j 4)] 5
def PcTells (prog : Program) (w : World) (p : Program) (loose : List Str) (mean : ExcName → Option Value) (mg mb : Str → Option Value) (pc : Addr) (pos : List Value) (kw : List (Str × Value)) (ln : Addr) (vs : List Value) (k : Nat) : Prop :=
  ∀ (dp un : Nat) (gd : Option (List Code)) (cn : Str) (cs : Scope) (a : Addr) (ccd : Value) (cl : List (Str × Addr)) (outer : List Env) (A₀ : Around) (base h₀ : Heap) (L : Addr) (m : Str → Option Value) (news : List (Addr × Obj)) (s : Shared)
    (Q E : Value → Shared → Prop),
    Below A₀ base outer h₀ → Fr h₀ L s.heap m → (topHead.heap_39 w.params).In h₀ → News h₀ L s.heap news → Top p loose mean mg mb h₀ → cs.kind = .function → (vs ≠ [] → (ln, listOf vs.toArray k) ∈ news) →
    dp + 20 < recursionLimit → un + 200 < cLine →
    (∀ x dx t j h' tk', Fr h₀ L h' m → News h₀ L h' ((x, instObj pc dx) :: (dx, pegD w t j) :: news) → (∀ q ∈ news, q.1 < dx) → (@LT.lt Nat _ dx x) → Q (.ref x) { s with heap := h', toks := tk' }) →
    wpAny (model prog w) (ktrTop dp un gd cn cs L a ccd cl outer) (call (.ref pc) pos kw) Q E s
theorem newsC {h₀ h : Heap} {L : Addr} {led rest : List (Addr × Obj)} {a : Addr × Obj} (N : News h₀ L h led) (ha : a ∈ led) (H : News h₀ L h rest) : News h₀ L h (a :: rest) := by
  intro p hp
  rcases List.mem_cons.mp hp with rfl | hp
  · exact N _ ha
  · exact H p hp
theorem newsS {h₀ h : Heap} {L : Addr} {led rest : List (Addr × Obj)} (N : News h₀ L h led) (hs : ∀ p ∈ rest, p ∈ led) : News h₀ L h rest := fun p hp => N p (hs p hp)
theorem news2 {h₀ h : Heap} {L : Addr} {led news : List (Addr × Obj)} {a b : Addr × Obj} (N : News h₀ L h led) (ha : a ∈ led) (hb : b ∈ led) (hs : ∀ p ∈ news, p ∈ led) : News h₀ L h (a :: b :: news) := by
  intro p hp
  rcases List.mem_cons.mp hp with rfl | hp
  · exact N _ ha
  rcases List.mem_cons.mp hp with rfl | hp
  · exact N _ hb
  exact N _ (hs p hp)
theorem pc_use {prog : Program} {w : World} {p : Program} {loose : List Str} {mean : ExcName → Option Value} {mg mb : Str → Option Value} {pc : Addr} {pos : List Value} {kw : List (Str × Value)} {ln : Addr} {vs : List Value} {k : Nat}
    {dp un : Nat} {gd : Option (List Code)} {cn : Str} {cs : Scope} {a : Addr} {ccd : Value} {cl : List (Str × Addr)} {outer : List Env} {A₀ : Around} {base h₀ : Heap} {L : Addr} {m : Str → Option Value} {news : List (Addr × Obj)} {s : Shared}
    {Q E : Value → Shared → Prop} (H : PcTells prog w p loose mean mg mb pc pos kw ln vs k)
    (B : Below A₀ base outer h₀) (F : Fr h₀ L s.heap m) (X : (topHead.heap_39 w.params).In h₀) (N : News h₀ L s.heap news) (T : Top p loose mean mg mb h₀) (hk : cs.kind = .function) (hln : vs ≠ [] → (ln, listOf vs.toArray k) ∈ news)
    (hdp : dp + 20 < recursionLimit) (hun : un + 200 < cLine)
    (ret : ∀ x dx t j h' tk', Fr h₀ L h' m → News h₀ L h' ((x, instObj pc dx) :: (dx, pegD w t j) :: news) → (∀ q ∈ news, q.1 < dx) → (@LT.lt Nat _ dx x) → Q (.ref x) { s with heap := h', toks := tk' }) :
    wpAny (model prog w) (ktrTop dp un gd cn cs L a ccd cl outer) (call (.ref pc) pos kw) Q E s :=
  H dp un gd cn cs a ccd cl outer A₀ base h₀ L m news s Q E B F X N T hk hln hdp hun ret
local macro_rules | `(tactic| k_mem) => `(tactic| first | exact List.mem_cons_self | (refine List.mem_cons_of_mem _ ?_; k_mem) | assumption)
local macro_rules | `(tactic| k_room) => `(tactic| ktr_room)
set_option maxHeartbeats 0 in
theorem pc1 {prog : Program} {w : World} {p : Program} {loose : List Str} {mean : ExcName → Option Value} {mg mb : Str → Option Value} {ln : Addr} {k : Nat} {rx rn : Str} {tx tn : Tok} : PcTells prog w p loose mean mg mb 152 [.str rx tx] [(Str.ofString "rule_name", .str rn tn), (Str.ofString "root", .bool true)] ln [] k := by
  have hfill : (topHead.heap_39 w.params).In ({} : Heap) → PySem.Challenge.rw_ez0375_01 = PySem.Challenge.rw_ez0375_01 := by k_fill; intro _; rfl
  clear hfill
  intro dp un gd cn cs a ccd cl outer A₀ base h₀ L m news s Q E B F X N T hk hln hdp hun hret
  skip
  k_dflt (refine' call_cls ?k1 ?k2 ?k3 ?k4 ?k5 ?k6 ?_; (case k1 => k_asm); (case k2 => k_asm); (case k3 => k_asm); (case k4 => k_is); (case k5 => k_is); (case k6 => k_is); k_whole; intro x' d' h' F' N' l1 l2; (try k_lt l1); (try k_lt2 l2); (try k_sweep))
  k_dflt (refine' code_def (binds := [(Str.ofString "self", .ref x'), (Str.ofString "to_match", .str rx tx), (Str.ofString "rule_name", .str rn tn), (Str.ofString "root", .bool true), (Str.ofString "nodes", .none), (Str.ofString "suppress", .bool false), (Str.ofString "ignore_case", .none)]) ?k1 ?k2 ?k3 ?k4 ?k5 ?kA ?kF ?kK ?k6 ?k7 ?k8 ?k9 ?kB ?_ ?c2 ?c3 ?c4 ?c5; (case kA => exact rfl); (case kF => exact rfl); (case kK => first | exact rfl | assumption); (case k1 => k_asm); (case k2 => k_asm); (case k3 => k_asm); (case k4 => k_asm); (case k5 => k_asm); (case k6 => k_is); (case k7 => k_is); (case k8 => k_room); (case k9 => exact binds_K (by k_in) rfl (by k_is) rfl rfl rfl); (case c5 => decide); (case kB => exact locs rfl); (case c2 => exact rfl); (case c3 => exact rfl); (case c4 => exact rfl); k_whole; intro g' L' h' FG' F' N' B' X' T'; (try dsimp only); (try k_lift B'); (try k_fold))
  k_steps
  (rename Fr _ _ _ _ => F9)
  (rename News _ _ _ _ => N9)
  (rename @LT.lt Nat _ _ _ => l9)
  have N10 := news2 (news := news) (a := (_, instObj 152 _)) (b := (_, pegD w (fun i => [_, _, _, _, _].getD i 0) (fun i => [_, _, _, _, _].getD i .none))) N9 (by k_mem) (by k_mem) (by intro p hp; repeat (first | exact hp | refine List.mem_cons_of_mem _ ?_))
  exact hret _ _ _ _ _ _ F9 N10 l1 l9
set_option maxHeartbeats 0 in
theorem pc2 {prog : Program} {w : World} {p : Program} {loose : List Str} {mean : ExcName → Option Value} {mg mb : Str → Option Value} {ln : Addr} {k : Nat} {rx rn : Str} {tx tn : Tok} : PcTells prog w p loose mean mg mb 152 [.str rx tx, .str rn tn] [(Str.ofString "root", .bool true)] ln [] k := by
  have hfill : (topHead.heap_39 w.params).In ({} : Heap) → PySem.Challenge.rw_ez0375_01 = PySem.Challenge.rw_ez0375_01 := by k_fill; intro _; rfl
  clear hfill
  intro dp un gd cn cs a ccd cl outer A₀ base h₀ L m news s Q E B F X N T hk hln hdp hun hret
  skip
  k_dflt (refine' call_cls ?k1 ?k2 ?k3 ?k4 ?k5 ?k6 ?_; (case k1 => k_asm); (case k2 => k_asm); (case k3 => k_asm); (case k4 => k_is); (case k5 => k_is); (case k6 => k_is); k_whole; intro x' d' h' F' N' l1 l2; (try k_lt l1); (try k_lt2 l2); (try k_sweep))
  k_dflt (refine' code_def (binds := [(Str.ofString "self", .ref x'), (Str.ofString "to_match", .str rx tx), (Str.ofString "rule_name", .str rn tn), (Str.ofString "root", .bool true), (Str.ofString "nodes", .none), (Str.ofString "suppress", .bool false), (Str.ofString "ignore_case", .none)]) ?k1 ?k2 ?k3 ?k4 ?k5 ?kA ?kF ?kK ?k6 ?k7 ?k8 ?k9 ?kB ?_ ?c2 ?c3 ?c4 ?c5; (case kA => exact rfl); (case kF => exact rfl); (case kK => first | exact rfl | assumption); (case k1 => k_asm); (case k2 => k_asm); (case k3 => k_asm); (case k4 => k_asm); (case k5 => k_asm); (case k6 => k_is); (case k7 => k_is); (case k8 => k_room); (case k9 => exact binds_K (by k_in) rfl (by k_is) rfl rfl rfl); (case c5 => decide); (case kB => exact locs rfl); (case c2 => exact rfl); (case c3 => exact rfl); (case c4 => exact rfl); k_whole; intro g' L' h' FG' F' N' B' X' T'; (try dsimp only); (try k_lift B'); (try k_fold))
  k_steps
  (rename Fr _ _ _ _ => F9)
  (rename News _ _ _ _ => N9)
  (rename @LT.lt Nat _ _ _ => l9)
  have N10 := news2 (news := news) (a := (_, instObj 152 _)) (b := (_, pegD w (fun i => [_, _, _, _, _].getD i 0) (fun i => [_, _, _, _, _].getD i .none))) N9 (by k_mem) (by k_mem) (by intro p hp; repeat (first | exact hp | refine List.mem_cons_of_mem _ ?_))
  exact hret _ _ _ _ _ _ F9 N10 l1 l9
local macro_rules | `(tactic| walk_at "truthy ref") => `(tactic| (k_here; k_dflt (refine' truthy_yes ?N ?m ?l ?ne ?_; (case N => k_asm); (case m => k_mem); (case l => assumption); (case ne => assumption); k_whole)))
set_option maxHeartbeats 0 in
theorem pc3 {prog : Program} {w : World} {p : Program} {loose : List Str} {mean : ExcName → Option Value} {mg mb : Str → Option Value} {ln : Addr} {k : Nat} {rn : Str} {tn : Tok} {vs : List Value} (hvs : vs ≠ []) (hvl : vs.length ≤ 30) : PcTells prog w p loose mean mg mb 128 [] [(Str.ofString "nodes", .ref ln), (Str.ofString "rule_name", .str rn tn), (Str.ofString "root", .bool true)] ln vs k := by
  have hfill : (topHead.heap_39 w.params).In ({} : Heap) → PySem.Challenge.rw_ez0375_01 = PySem.Challenge.rw_ez0375_01 := by k_fill; intro _; rfl
  clear hfill
  intro dp un gd cn cs a ccd cl outer A₀ base h₀ L m news s Q E B F X N T hk hln hdp hun hret
  have hlm := hln hvs
  k_dflt (refine' call_cls ?k1 ?k2 ?k3 ?k4 ?k5 ?k6 ?_; (case k1 => k_asm); (case k2 => k_asm); (case k3 => k_asm); (case k4 => k_is); (case k5 => k_is); (case k6 => k_is); k_whole; intro x' d' h' F' N' l1 l2; (try k_lt l1); (try k_lt2 l2); (try k_sweep))
  k_dflt (refine' code_def (binds := [(Str.ofString "self", .ref x'), (Str.ofString "to_match", .str (Str.ofString "") 304), (Str.ofString "rule_name", .str rn tn), (Str.ofString "root", .bool true), (Str.ofString "nodes", .ref ln), (Str.ofString "suppress", .bool false), (Str.ofString "ignore_case", .none)]) ?k1 ?k2 ?k3 ?k4 ?k5 ?kA ?kF ?kK ?k6 ?k7 ?k8 ?k9 ?kB ?_ ?c2 ?c3 ?c4 ?c5; (case kA => exact rfl); (case kF => exact rfl); (case kK => first | exact rfl | assumption); (case k1 => k_asm); (case k2 => k_asm); (case k3 => k_asm); (case k4 => k_asm); (case k5 => k_asm); (case k6 => k_is); (case k7 => k_is); (case k8 => k_room); (case k9 => exact binds_K (by k_in) rfl (by k_is) rfl rfl rfl); (case c5 => decide); (case kB => exact locs rfl); (case c2 => exact rfl); (case c3 => exact rfl); (case c4 => exact rfl); k_whole; intro g' L' h' FG' F' N' B' X' T'; (try dsimp only); (try k_lift B'); (try k_fold))
  k_steps
  (rename Fr _ _ _ _ => F9)
  (rename News _ _ _ _ => N9)
  (rename @LT.lt Nat _ _ _ => l9)
  have N10 := news2 (news := news) (a := (_, instObj 128 _)) (b := (_, pegD w (fun i => [_, _, _, _, _].getD i 0) (fun i => [_, _, _, _, _].getD i .none))) N9 (by k_mem) (by k_mem) (by intro p hp; repeat (first | exact hp | refine List.mem_cons_of_mem _ ?_))
  exact hret _ _ _ _ _ _ F9 N10 l1 l9
theorem pc_use3 {prog : Program} {w : World} {p : Program} {loose : List Str} {mean : ExcName → Option Value} {mg mb : Str → Option Value} {rn : Str} {tn : Tok} {ln : Addr} {vs : List Value} {k : Nat}
    {dp un : Nat} {gd : Option (List Code)} {cn : Str} {cs : Scope} {a : Addr} {ccd : Value} {cl : List (Str × Addr)} {outer : List Env} {A₀ : Around} {base h₀ : Heap} {L : Addr} {m : Str → Option Value} {news : List (Addr × Obj)} {s : Shared}
    {Q E : Value → Shared → Prop}
    (B : Below A₀ base outer h₀) (F : Fr h₀ L s.heap m) (X : (topHead.heap_39 w.params).In h₀) (N : News h₀ L s.heap news) (T : Top p loose mean mg mb h₀) (hk : cs.kind = .function) (hln : (ln, listOf vs.toArray k) ∈ news) (hv : vs ≠ []) (hw : vs.length ≤ 30)
    (hdp : dp + 20 < recursionLimit) (hun : un + 200 < cLine)
    (ret : ∀ x dx t j h' tk', Fr h₀ L h' m → News h₀ L h' ((x, instObj 128 dx) :: (dx, pegD w t j) :: news) → (∀ q ∈ news, q.1 < dx) → (@LT.lt Nat _ dx x) → Q (.ref x) { s with heap := h', toks := tk' }) :
    wpAny (model prog w) (ktrTop dp un gd cn cs L a ccd cl outer) (call (.ref 128) [] [(Str.ofString "nodes", .ref ln), (Str.ofString "rule_name", .str rn tn), (Str.ofString "root", .bool true)]) Q E s :=
  pc3 hv hw dp un gd cn cs a ccd cl outer A₀ base h₀ L m news s Q E B F X N T hk (fun _ => hln) hdp hun ret
end Mine
end
section
open PySem PySem.W PyProof.Rows PySem.Calls PySem.Spec
set_option maxRecDepth 100000
set_option rowWalk.seconds 0
namespace Mine
theorem fresh_nb : True := by
  w_top off
  trivial
/-- `_new_class(name, peg, at, ..)` in the namespace of the base -/
def NbTells (prog : Program) (w : World) (p : Program) (loose : List Str) (mean : ExcName → Option Value) (mg mb : Str → Option Value) (pc : Addr) (kw : List (Str × Value)) (lj : Addr) (vs : List Value) (kj : Nat) : Prop :=
  ∀ (dp un : Nat) (gd : Option (List Code)) (cn : Str) (cs : Scope) (a : Addr) (ccd : Value) (cl : List (Str × Addr)) (outer : List Env) (A₀ : Around) (base h₀ : Heap) (L : Addr) (m : Str → Option Value) (news : List (Addr × Obj)) (s : Shared)
    (Q E : Value → Shared → Prop) (mm dns ls imp dcur pa dpg : Addr) (tb : Tok) (tp : Nat → Tok) (jp : Nat → Value) (ocur : Obj) (kvs : List (Str × Value)) (nm : Str) (tn : Tok) (at_ : Int) (ta : Tok),
    Below A₀ base outer h₀ → Fr h₀ L s.heap m → (topHead.heap_39 w.params).In h₀ → News h₀ L s.heap ((dcur, ocur) :: (dpg, pegD w tp jp) :: news) → Top p loose mean mg mb h₀ → cs.kind = .function →
    MmIn prog w news mm dns ls imp dcur (some (Str.ofString "__base__")) (.str (Str.ofString "__base__") tb) → ocur.IsDictOf (PySem.strKind prog w) kvs → (∀ q ∈ news, q.1 ≠ dcur) → (∀ q ∈ news, q.1 ≠ dpg) → (@Ne Nat dcur dpg) → kvs.length ≤ 30 →
    (pa, instObj pc dpg) ∈ news → (vs ≠ [] → (lj, listOf vs.toArray kj) ∈ news) → dp + 20 < recursionLimit → un + 200 < cLine →
    (∀ c dc li kl ocur' t j u v h' tk', Fr h₀ L h' m → News h₀ L h' ((c, instObj 52 dc) :: (dc, clsD w t j nm u v li) :: (li, listOf vs.toArray kl) :: (dcur, ocur') :: news) → ocur'.IsDictOf (PySem.strKind prog w) (stored kvs nm (.ref c)) →
      (∀ q ∈ news, q.1 < c) → (∀ q ∈ news, q.1 < dc) → (@LT.lt Nat _ dcur c) → (@LT.lt Nat _ dcur dc) → (if vs = [] then (∀ q ∈ news, q.1 < li) ∧ @LT.lt Nat _ dcur li else li = lj) → Q (.ref c) { s with heap := h', toks := tk' }) →
    wpAny (model prog w) (ktrTop dp un gd cn cs L a ccd cl outer) (call (.ref 212) [.ref mm, .str nm tn, .ref pa, .int at_ ta] kw) Q E s

local macro_rules | `(tactic| k_mem) => `(tactic| first | exact List.mem_cons_self | (refine List.mem_cons_of_mem _ ?_; k_mem) | assumption)
local macro_rules | `(tactic| k_all) => `(tactic| with_reducible assumption)
local macro_rules | `(tactic| k_room) => `(tactic| ktr_room)
local macro_rules | `(tactic| walk_at "compareOp In none ref") => `(tactic| (k_here; k_dflt (refine' in_base_none ?N ?m ?_; (case N => k_asm); (case m => k_mem); k_whole)))
local macro_rules | `(tactic| walk_at "compareOp In str ref") => `(tactic| (k_here; k_dflt (refine' in_base_str ?N ?m ?_; (case N => k_asm); (case m => k_mem); k_whole)))
local macro_rules | `(tactic| walk_at "subscriptTail Attribute UnaryOp ref int") => `(tactic| (k_here; k_dflt (refine' item_last ?N ?m ?_; (case N => k_asm); (case m => k_mem); k_whole)))
local macro_rules | `(tactic| walk_at "subscriptTail Attribute Name UnaryOp ref int") => `(tactic| (k_here; k_dflt (refine' item_last ?N ?m ?_; (case N => k_asm); (case m => k_mem); k_whole)))
local macro_rules | `(tactic| walk_at "subscriptTail Attribute Subscript ref str") => `(tactic| (k_here; k_dflt (refine kda_itemA (knd := nsKind _ _) (by k_asm) (by k_mem) (by k_asm) (ns_str _ _ _ _) (by k_asm) ?_)))
local macro_rules | `(tactic| walk_at "subscriptTail Attribute Name Subscript ref str") => `(tactic| (k_here; k_dflt (refine kda_itemA (knd := nsKind _ _) (by k_asm) (by k_mem) (by k_asm) (ns_str _ _ _ _) (by k_asm) ?_)))
local macro_rules | `(tactic| walk_at "setItem ref str ref") => `(tactic| (k_here; k_dflt (refine' kda_set (knd := PySem.strKind _ _) ?F ?N ?U ?d (strKind_is _ _ _ _) ?z ?_; (case F => k_asm); (case N => k_asm); (case U => k_updF); (case d => k_asm); (case z => rw [sizeLine_eq]; omega)); intro h' o' F' N' hd'; (try dsimp only at N')))
set_option maxHeartbeats 0 in
theorem nb0 {prog : Program} {w : World} {p : Program} {loose : List Str} {mean : ExcName → Option Value} {mg mb : Str → Option Value} {lj : Addr} {kj : Nat}  : NbTells prog w p loose mean mg mb 152 [] lj [] kj := by
  have hfill : (topHead.heap_39 w.params).In ({} : Heap) → PySem.Challenge.rw_ez0375_01 = PySem.Challenge.rw_ez0375_01 := by k_fill; intro _; rfl
  clear hfill
  intro dp un gd cn cs a ccd cl outer A₀ base h₀ L m news s Q E mm dns ls imp dcur pa dpg tb tp jp ocur kvs nm tn at_ ta B F X N T hk hM hD hne hnp hdd hkl hpa hj hdp hun hret
  obtain ⟨dm, t, j, ons, nkv, k, hm1, hm2, hm3, hm4, hm5, hm6, hm7, hm8⟩ := hM
  skip
  refine wpAny_call ?_
  k_dflt (refine' code_def (binds := [(Str.ofString "self", .ref mm), (Str.ofString "name", .str nm tn), (Str.ofString "peg_rule", .ref pa), (Str.ofString "position", .int at_ ta), (Str.ofString "position_end", .none), (Str.ofString "inherits", .none), (Str.ofString "root", .bool false), (Str.ofString "rule_type", .str (Str.ofString "match") 216)]) ?k1 ?k2 ?k3 ?k4 ?k5 ?kA ?kF ?kK ?k6 ?k7 ?k8 ?k9 ?kB ?_ ?c2 ?c3 ?c4 ?c5; (case kA => exact rfl); (case kF => exact rfl); (case kK => first | exact rfl | assumption); (case k1 => k_asm); (case k2 => k_asm); (case k3 => k_asm); (case k4 => k_asm); (case k5 => k_asm); (case k6 => k_is); (case k7 => k_is); (case k8 => k_room); (case k9 => exact binds_K (by k_in) rfl (by k_is) rfl rfl rfl); (case c5 => decide); (case kB => exact locs rfl); (case c2 => exact rfl); (case c3 => exact rfl); (case c4 => exact rfl); k_whole; intro g' L' h' FG' F' N' B' X' T'; (try dsimp only); (try k_lift B'); (try k_fold))
  k_steps
  (rename Fr _ _ _ _ => F9)
  (rename News _ _ _ _ => N9)
  (rename Obj.IsDictOf (PySem.strKind _ _) _ (stored _ _ _) => hd9)
  (rename @LT.lt Nat _ _ _ => l9)
  have N10 := news4 (news := news) (a := (_, instObj 52 _)) (b := (_, clsD w (fun i => [_, _, _, _, _, _, _, _, _, _].getD i 0) (fun i => [.none, .none, _, _, _, _, _, _, _].getD i .none) nm _ _ _)) (c := (_, listOf #[] _)) (d := (dcur, _)) N9 (by k_mem) (by k_mem) (by k_mem) (by k_mem) (by intro p hp; repeat (first | exact hp | refine List.mem_cons_of_mem _ ?_))
  exact hret _ _ _ _ _ _ _ _ _ _ _ F9 N10 hd9 (fun q hq => Nat.lt_trans (tb_ltOf (by tbn_find) q hq) l9) (fun q hq => tb_ltOf (by tbn_find) q hq) (by omega) (by omega) (by rw [if_pos rfl]; exact ⟨fun q hq => tb_ltOf (by tbn_find) q hq, by omega⟩)
local macro_rules | `(tactic| walk_at "truthy ref") => `(tactic| (k_here; k_dflt (refine' truthy_yes ?N ?m ?l ?ne ?_; (case N => k_asm); (case m => k_mem); (case l => assumption); (case ne => assumption); k_whole)))
set_option maxHeartbeats 0 in
theorem nb1 {prog : Program} {w : World} {p : Program} {loose : List Str} {mean : ExcName → Option Value} {mg mb : Str → Option Value} {lj : Addr} {kj : Nat} {vs : List Value} (hvs : vs ≠ []) (hvl : vs.length ≤ 30) : NbTells prog w p loose mean mg mb 128 [(Str.ofString "inherits", .ref lj)] lj vs kj := by
  have hfill : (topHead.heap_39 w.params).In ({} : Heap) → PySem.Challenge.rw_ez0375_01 = PySem.Challenge.rw_ez0375_01 := by k_fill; intro _; rfl
  clear hfill
  intro dp un gd cn cs a ccd cl outer A₀ base h₀ L m news s Q E mm dns ls imp dcur pa dpg tb tp jp ocur kvs nm tn at_ ta B F X N T hk hM hD hne hnp hdd hkl hpa hj hdp hun hret
  obtain ⟨dm, t, j, ons, nkv, k, hm1, hm2, hm3, hm4, hm5, hm6, hm7, hm8⟩ := hM
  have hjm := hj hvs
  refine wpAny_call ?_
  k_dflt (refine' code_def (binds := [(Str.ofString "self", .ref mm), (Str.ofString "name", .str nm tn), (Str.ofString "peg_rule", .ref pa), (Str.ofString "position", .int at_ ta), (Str.ofString "position_end", .none), (Str.ofString "inherits", .ref lj), (Str.ofString "root", .bool false), (Str.ofString "rule_type", .str (Str.ofString "match") 216)]) ?k1 ?k2 ?k3 ?k4 ?k5 ?kA ?kF ?kK ?k6 ?k7 ?k8 ?k9 ?kB ?_ ?c2 ?c3 ?c4 ?c5; (case kA => exact rfl); (case kF => exact rfl); (case kK => first | exact rfl | assumption); (case k1 => k_asm); (case k2 => k_asm); (case k3 => k_asm); (case k4 => k_asm); (case k5 => k_asm); (case k6 => k_is); (case k7 => k_is); (case k8 => k_room); (case k9 => exact binds_K (by k_in) rfl (by k_is) rfl rfl rfl); (case c5 => decide); (case kB => exact locs rfl); (case c2 => exact rfl); (case c3 => exact rfl); (case c4 => exact rfl); k_whole; intro g' L' h' FG' F' N' B' X' T'; (try dsimp only); (try k_lift B'); (try k_fold))
  k_steps
  (rename Fr _ _ _ _ => F9)
  (rename News _ _ _ _ => N9)
  (rename Obj.IsDictOf (PySem.strKind _ _) _ (stored _ _ _) => hd9)
  (rename @LT.lt Nat _ _ _ => l9)
  have N10 := news4 (news := news) (a := (_, instObj 52 _)) (b := (_, clsD w (fun i => [_, _, _, _, _, _, _, _, _, _].getD i 0) (fun i => [.none, .none, _, _, _, _, _, _, _].getD i .none) nm _ _ _)) (c := (_, listOf vs.toArray _)) (d := (dcur, _)) N9 (by k_mem) (by k_mem) (by k_mem) (by k_mem) (by intro p hp; repeat (first | exact hp | refine List.mem_cons_of_mem _ ?_))
  exact hret _ _ _ _ _ _ _ _ _ _ _ F9 N10 hd9 (fun q hq => Nat.lt_trans (tb_ltOf (by tbn_find) q hq) l9) (fun q hq => tb_ltOf (by tbn_find) q hq) (by omega) (by omega) (by rw [if_neg hvs])
set_option maxHeartbeats 0 in
theorem nb2 {prog : Program} {w : World} {p : Program} {loose : List Str} {mean : ExcName → Option Value} {mg mb : Str → Option Value} {lj : Addr} {kj : Nat} {vs : List Value} {tr : Tok} (hvs : vs ≠ []) (hvl : vs.length ≤ 30) : NbTells prog w p loose mean mg mb 152 [(Str.ofString "inherits", .ref lj), (Str.ofString "rule_type", .str (Str.ofString "abstract") tr)] lj vs kj := by
  have hfill : (topHead.heap_39 w.params).In ({} : Heap) → PySem.Challenge.rw_ez0375_01 = PySem.Challenge.rw_ez0375_01 := by k_fill; intro _; rfl
  clear hfill
  intro dp un gd cn cs a ccd cl outer A₀ base h₀ L m news s Q E mm dns ls imp dcur pa dpg tb tp jp ocur kvs nm tn at_ ta B F X N T hk hM hD hne hnp hdd hkl hpa hj hdp hun hret
  obtain ⟨dm, t, j, ons, nkv, k, hm1, hm2, hm3, hm4, hm5, hm6, hm7, hm8⟩ := hM
  have hjm := hj hvs
  refine wpAny_call ?_
  k_dflt (refine' code_def (binds := [(Str.ofString "self", .ref mm), (Str.ofString "name", .str nm tn), (Str.ofString "peg_rule", .ref pa), (Str.ofString "position", .int at_ ta), (Str.ofString "position_end", .none), (Str.ofString "inherits", .ref lj), (Str.ofString "root", .bool false), (Str.ofString "rule_type", .str (Str.ofString "abstract") tr)]) ?k1 ?k2 ?k3 ?k4 ?k5 ?kA ?kF ?kK ?k6 ?k7 ?k8 ?k9 ?kB ?_ ?c2 ?c3 ?c4 ?c5; (case kA => exact rfl); (case kF => exact rfl); (case kK => first | exact rfl | assumption); (case k1 => k_asm); (case k2 => k_asm); (case k3 => k_asm); (case k4 => k_asm); (case k5 => k_asm); (case k6 => k_is); (case k7 => k_is); (case k8 => k_room); (case k9 => exact binds_K (by k_in) rfl (by k_is) rfl rfl rfl); (case c5 => decide); (case kB => exact locs rfl); (case c2 => exact rfl); (case c3 => exact rfl); (case c4 => exact rfl); k_whole; intro g' L' h' FG' F' N' B' X' T'; (try dsimp only); (try k_lift B'); (try k_fold))
  k_steps
  (rename Fr _ _ _ _ => F9)
  (rename News _ _ _ _ => N9)
  (rename Obj.IsDictOf (PySem.strKind _ _) _ (stored _ _ _) => hd9)
  (rename @LT.lt Nat _ _ _ => l9)
  have N10 := news4 (news := news) (a := (_, instObj 52 _)) (b := (_, clsD w (fun i => [_, _, _, _, _, _, _, _, _, _].getD i 0) (fun i => [.none, .none, _, _, _, _, _, _, _].getD i .none) nm _ _ _)) (c := (_, listOf vs.toArray _)) (d := (dcur, _)) N9 (by k_mem) (by k_mem) (by k_mem) (by k_mem) (by intro p hp; repeat (first | exact hp | refine List.mem_cons_of_mem _ ?_))
  exact hret _ _ _ _ _ _ _ _ _ _ _ F9 N10 hd9 (fun q hq => Nat.lt_trans (tb_ltOf (by tbn_find) q hq) l9) (fun q hq => tb_ltOf (by tbn_find) q hq) (by omega) (by omega) (by rw [if_neg hvs])
end Mine
end
section
open PySem PySem.W PyProof.Rows PySem.Calls PySem.Spec
set_option maxRecDepth 100000
set_option rowWalk.seconds 0
namespace Mine
theorem fresh_br : True := by
  w_top off
  trivial
local macro_rules | `(tactic| k_mem) => `(tactic| first | exact List.mem_cons_self | (refine List.mem_cons_of_mem _ ?_; k_mem) | assumption)
local macro_rules | `(tactic| k_room) => `(tactic| ktr_room)
local macro_rules | `(tactic| walk_at "call ref") => `(tactic| (k_here; (with_reducible show wpAny _ _ (call (Value.ref 152) [Value.str _ _] _) _ _ _); (with_unfolding_all show wpAny _ _ (call (Value.ref 152) [Value.str _ _] [(PySem.Str.ofString "rule_name", Value.str _ _), (PySem.Str.ofString "root", Value.bool true)]) _ _ _); k_dflt (refine' pc_use (ln := 0) (vs := []) (k := 0) ?H ?B ?F ?X ?N ?T ?hk ?hl ?dd ?uu ?_; (case B => k_asm); (case F => k_asm); (case X => k_asm); (case N => k_asm); (case T => k_asm); (case H => exact pc1); (case hl => exact fun e => absurd rfl e); (case hk => first | exact rfl | assumption); (case dd => ktr_room); (case uu => ktr_units); k_whole; intro x' d' t' j' h' tk' F' N' l1 l2; (try k_lt l1); (try k_sweep))))
local macro_rules | `(tactic| walk_at "call ref") => `(tactic| (k_here; (with_reducible show wpAny _ _ (call (Value.ref 152) [Value.str _ _, Value.str _ _] _) _ _ _); (with_unfolding_all show wpAny _ _ (call (Value.ref 152) [Value.str _ _, Value.str _ _] [(PySem.Str.ofString "root", Value.bool true)]) _ _ _); k_dflt (refine' pc_use (ln := 0) (vs := []) (k := 0) ?H ?B ?F ?X ?N ?T ?hk ?hl ?dd ?uu ?_; (case B => k_asm); (case F => k_asm); (case X => k_asm); (case N => k_asm); (case T => k_asm); (case H => exact pc2); (case hl => exact fun e => absurd rfl e); (case hk => first | exact rfl | assumption); (case dd => ktr_room); (case uu => ktr_units); k_whole; intro x' d' t' j' h' tk' F' N' l1 l2; (try k_lt l1); (try k_sweep))))
local macro_rules | `(tactic| walk_at "call ref") => `(tactic| (k_here; (with_reducible show wpAny _ _ (call (Value.ref 128) _ _) _ _ _); (with_unfolding_all show wpAny _ _ (call (Value.ref _) [] [(PySem.Str.ofString "nodes", Value.ref _), (PySem.Str.ofString "rule_name", Value.str _ _), (PySem.Str.ofString "root", Value.bool true)]) _ _ _); k_dflt (refine' pc_use3 ?B ?F ?X ?N ?T ?hk ?hl ?hv ?hw ?dd ?uu ?_; (case B => k_asm); (case F => k_asm); (case X => k_asm); (case N => k_asm); (case T => k_asm); (case hl => k_mem); (case hv => simp); (case hw => simp); (case hk => first | exact rfl | assumption); (case dd => ktr_room); (case uu => ktr_units); k_whole; intro x' d' t' j' h' tk' F' N' l1 l2; (try k_lt l1); (try k_sweep))))
local macro_rules | `(tactic| walk_at "callWith ref nil") => `(tactic| (k_here; k_dflt (refine' callWith_KW0 ?k1 ?k2 ?k3 ?_; (case k1 => with_reducible assumption); (case k2 => k_is); (case k3 => exact rfl); k_whole)))
local macro_rules | `(tactic| walk_at "callWith ref nil") => `(tactic| (k_here; k_dflt (refine' callWith_KW ?k1 ?k2 ?k3 ?_; (case k1 => with_reducible assumption); (case k2 => k_is); (case k3 => exact rfl); k_whole)))
/-- `base_rules()` -/
def BrTells (prog : Program) (w : World) (p : Program) (loose : List Str) (mean : ExcName → Option Value) (mg mb : Str → Option Value) : Prop :=
  ∀ (dp un : Nat) (gd : Option (List Code)) (cn : Str) (cs : Scope) (a : Addr) (ccd : Value) (cl : List (Str × Addr)) (outer : List Env) (A₀ : Around) (base h₀ : Heap) (L : Addr) (m : Str → Option Value) (news : List (Addr × Obj)) (s : Shared)
    (Q E : Value → Shared → Prop),
    Below A₀ base outer h₀ → Fr h₀ L s.heap m → (topHead.heap_39 w.params).In h₀ → News h₀ L s.heap news → Top p loose mean mg mb h₀ → cs.kind = .function → dp + 30 < recursionLimit → un + 300 < cLine →
    (∀ (T x_id x_st x_bo x_in x_fl x_sf x_nu x_ba x_ob d_id d_st d_bo d_in d_fl d_sf d_nu d_ba d_ob : Addr) (t_id t_st t_bo t_in t_fl t_sf t_nu t_ba t_ob : Nat → Tok) (j_id j_st j_bo j_in j_fl j_sf j_nu j_ba j_ob : Nat → Value) h' tk', Fr h₀ L h' m → News h₀ L h' ((T, ({ cls := .type "tuple", data := .seq #[.ref x_id, .ref x_st, .ref x_bo, .ref x_in, .ref x_fl, .ref x_sf, .ref x_nu, .ref x_ba, .ref x_ob] } : Obj)) :: (x_id, instObj 152 d_id) ::  (x_st, instObj 152 d_st) ::  (x_bo, instObj 152 d_bo) ::  (x_in, instObj 152 d_in) ::  (x_fl, instObj 152 d_fl) ::  (x_sf, instObj 152 d_sf) ::  (x_nu, instObj 128 d_nu) ::  (x_ba, instObj 128 d_ba) ::  (x_ob, instObj 152 d_ob) ::  (d_id, pegD w t_id j_id) ::  (d_st, pegD w t_st j_st) ::  (d_bo, pegD w t_bo j_bo) ::  (d_in, pegD w t_in j_in) ::  (d_fl, pegD w t_fl j_fl) ::  (d_sf, pegD w t_sf j_sf) ::  (d_nu, pegD w t_nu j_nu) ::  (d_ba, pegD w t_ba j_ba) ::  (d_ob, pegD w t_ob j_ob) ::  news) → (∀ q ∈ news, q.1 < d_id) → @LT.lt Nat _ d_id x_id → @LT.lt Nat _ x_id d_bo → @LT.lt Nat _ d_bo x_bo → @LT.lt Nat _ x_bo d_in → @LT.lt Nat _ d_in x_in → @LT.lt Nat _ x_in d_fl → @LT.lt Nat _ d_fl x_fl → @LT.lt Nat _ x_fl d_sf → @LT.lt Nat _ d_sf x_sf → @LT.lt Nat _ x_sf d_st → @LT.lt Nat _ d_st x_st → @LT.lt Nat _ x_st d_nu → @LT.lt Nat _ d_nu x_nu → @LT.lt Nat _ x_nu d_ba → @LT.lt Nat _ d_ba x_ba → @LT.lt Nat _ x_ba d_ob → @LT.lt Nat _ d_ob x_ob → @LT.lt Nat _ x_ob T → Q (.ref T) { s with heap := h', toks := tk' }) →
    wpAny (model prog w) (ktrTop dp un gd cn cs L a ccd cl outer) (call (.ref 161) []) Q E s
set_option maxHeartbeats 0 in
theorem br_tells {prog : Program} {w : World} {p : Program} {loose : List Str} {mean : ExcName → Option Value} {mg mb : Str → Option Value} : BrTells prog w p loose mean mg mb := by
  have hfill : (topHead.heap_39 w.params).In ({} : Heap) → PySem.Challenge.rw_ez0375_01 = PySem.Challenge.rw_ez0375_01 := by k_fill; intro _; rfl
  clear hfill
  intro dp un gd cn cs a ccd cl outer A₀ base h₀ L m news s Q E B F X N T hk hdp hun hret
  refine wpAny_call ?_
  k_dflt (refine' code_def (binds := []) ?k1 ?k2 ?k3 ?k4 ?k5 ?kA ?kF ?kK ?k6 ?k7 ?k8 ?k9 ?kB ?_ ?c2 ?c3 ?c4 ?c5; (case kA => exact rfl); (case kF => exact rfl); (case kK => first | exact rfl | assumption); (case k1 => k_asm); (case k2 => k_asm); (case k3 => k_asm); (case k4 => k_asm); (case k5 => k_asm); (case k6 => k_is); (case k7 => k_is); (case k8 => k_room); (case k9 => first | exact BindsTo.of_eq rfl); (case c5 => decide); (case kB => exact locs rfl); (case c2 => exact rfl); (case c3 => exact rfl); (case c4 => exact rfl); k_whole; intro g' L' h' FG' F' N' B' X' T'; (try dsimp only); (try k_lift B'); (try k_fold))
  k_steps
  (rename Fr _ _ _ _ => F9)
  (rename News _ _ _ _ => N9)
  (rename ∀ q ∈ news, q.1 < _ => l9)
  refine hret _ _ _ _ _ _ _ _ _ _ _ _ _ _ _ _ _ _ _ _ _ _ _ _ _ _ _ _ _ _ _ _ _ _ _ _ _ _ _ F9 (newsC N9 (by k_mem) (newsC N9 (by k_mem) (newsC N9 (by k_mem) (newsC N9 (by k_mem) (newsC N9 (by k_mem) (newsC N9 (by k_mem) (newsC N9 (by k_mem) (newsC N9 (by k_mem) (newsC N9 (by k_mem) (newsC N9 (by k_mem) (newsC N9 (by k_mem) (newsC N9 (by k_mem) (newsC N9 (by k_mem) (newsC N9 (by k_mem) (newsC N9 (by k_mem) (newsC N9 (by k_mem) (newsC N9 (by k_mem) (newsC N9 (by k_mem) (newsC N9 (by k_mem) (newsS N9 (by intro p hp; repeat (first | exact hp | refine List.mem_cons_of_mem _ ?_)))))))))))))))))))))) l9 ?_ ?_ ?_ ?_ ?_ ?_ ?_ ?_ ?_ ?_ ?_ ?_ ?_ ?_ ?_ ?_ ?_ ?_
  all_goals omega
end Mine
end
section
open PySem PySem.W PyProof.Rows PySem.Calls PySem.Spec
set_option maxRecDepth 100000
namespace Mine
section
variable {K : Type} [DecidableEq K]
theorem valueAt_append {xs ys : List (K × Value)} {k : K} : valueAt (xs ++ ys) k = (valueAt xs k).or (valueAt ys k) := by
  unfold valueAt
  rw [List.find?_append]
  cases (xs.find? fun kv => decide (kv.1 = k)) <;> rfl
theorem valueAt_stored (kvs : List (K × Value)) (k : K) (v : Value) : valueAt (stored kvs k v) k = some v := by
  unfold stored
  split
  · rename_i h
    induction kvs with
    | nil => simp at h
    | cons a r ih =>
      unfold valueAt
      by_cases e : a.1 = k
      · simp [e]
      · simp only [List.map_cons, e, if_false, List.find?_cons, decide_false]
        exact ih (by simpa [e] using h)
  · rename_i h
    rw [valueAt_append]
    have : valueAt kvs k = none := by
      have h2 := valueAt_isSome_eq_any kvs k
      rw [Bool.eq_false_iff.mpr h] at h2
      exact Option.not_isSome_iff_eq_none.mp (by rw [h2]; exact Bool.false_ne_true)
    rw [this]
    simp [valueAt]
theorem valueAt_stored_ne (kvs : List (K × Value)) {k k' : K} (hne : k ≠ k') (v : Value) : valueAt (stored kvs k v) k' = valueAt kvs k' := by
  unfold stored
  split
  · rename_i h0
    clear h0
    induction kvs with
    | nil => rfl
    | cons a r ih =>
      unfold valueAt at ih ⊢
      by_cases e : a.1 = k
      · have : ¬ a.1 = k' := fun e' => hne (e ▸ e')
        simp only [List.map_cons, e, if_true, List.find?_cons, hne, decide_false, this]
        simpa [e] using ih
      · by_cases e' : a.1 = k'
        · simp [e, e', hne.symm]
        · simp only [List.map_cons, e, if_false, List.find?_cons, e', decide_false]
          exact ih
  · rw [valueAt_append]
    have : valueAt [(k, v)] k' = none := by simp [valueAt, hne]
    rw [this, Option.or_none]
end
section
variable {prog : Program} {w : World} {A : Around} {E : Value → Shared → Prop} {s : Shared} {h₀ : Heap} {L : Addr} {news : List (Addr × Obj)}
theorem kda_notin {K : Type} [DecidableEq K] {knd : KeyKind prog w K} {d : Addr} {o : Obj} {kvs : List (K × Value)} {k : K} {key : Value} {Q : Value → Shared → Prop} (N : News h₀ L s.heap news) (hp : (d, o) ∈ news) (hd : o.IsDictOf knd kvs) (lo : (d == sysModules) = false)
    (hkey : knd.is k key = true) (b : Bool) (hb : (!(valueAt kvs k).isSome) = b) (h : Q (.bool b) { s with toks := s.toks + 1 }) : wpAny (model prog w) A (compareOp .NotIn key (.ref d)) Q E s :=
  wpAny_notIn_of hkey lo (kda_dict N hp hd).mapOf (by rw [hb]; exact h)
end
end Mine
end
section
open PySem PySem.W PyProof.Rows PySem.Calls PySem.Spec
set_option maxRecDepth 100000
namespace Mine
/-- the ledger without an address -/
def off (a : Addr) (led : List (Addr × Obj)) : List (Addr × Obj) := led.filter fun q => !decide (@Eq Nat q.1 a)
theorem off_ne {a : Addr} {led : List (Addr × Obj)} : ∀ q ∈ off a led, q.1 ≠ a := by
  intro q hq
  have := (List.mem_filter.mp hq).2
  simpa using this
theorem off_sub {a : Addr} {led : List (Addr × Obj)} : ∀ q ∈ off a led, q ∈ led := fun _ hq => (List.mem_filter.mp hq).1
theorem off_mem {a x : Addr} {o : Obj} {led : List (Addr × Obj)} (h : (x, o) ∈ led) (hne : @Ne Nat x a) : (x, o) ∈ off a led := List.mem_filter.mpr ⟨h, by simpa using hne⟩
/-- the ledger from an address on -/
def abv (a : Addr) (led : List (Addr × Obj)) : List (Addr × Obj) := led.filter fun q => decide (@LE.le Nat _ a q.1)
theorem abv_mem {a x : Addr} {o : Obj} {led : List (Addr × Obj)} (h : (x, o) ∈ led) (hle : @LE.le Nat _ a x) : (x, o) ∈ abv a led := List.mem_filter.mpr ⟨h, by simpa using hle⟩
theorem abv_sub {a : Addr} {led : List (Addr × Obj)} : ∀ q ∈ abv a led, q ∈ led := fun _ hq => (List.mem_filter.mp hq).1
theorem abv_ge {a : Addr} {led : List (Addr × Obj)} : ∀ q ∈ abv a led, @LE.le Nat _ a q.1 := fun q hq => by
  have := (List.mem_filter.mp hq).2
  simpa using this
theorem pull {h₀ h : Heap} {L a : Addr} {o : Obj} {led : List (Addr × Obj)} (N : News h₀ L h led) (ha : (a, o) ∈ led) : News h₀ L h ((a, o) :: off a led) := by
  intro p hp
  rcases List.mem_cons.mp hp with rfl | hp
  · exact N _ ha
  · exact N p (off_sub p hp)
/-- a class above the base's dict -/
def ClsB (w : World) (db : Addr) (led : List (Addr × Obj)) (c : Addr) (nm : Str) (vs : List Value) : Prop :=
  ∃ (dc li : Addr) (t : Nat → Tok) (j : Nat → Value) (u v : Tok) (k : Nat), (c, instObj 52 dc) ∈ led ∧ (dc, clsD w t j nm u v li) ∈ led ∧ (li, listOf vs.toArray k) ∈ led ∧ @LT.lt Nat _ db c ∧ @LT.lt Nat _ db dc ∧ @LT.lt Nat _ db li
theorem ClsB.keep {w : World} {db : Addr} {led led' : List (Addr × Obj)} {c : Addr} {nm : Str} {vs : List Value} (H : ClsB w db led c nm vs) (h : ∀ x o, (x, o) ∈ led → @LT.lt Nat _ db x → (x, o) ∈ led') : ClsB w db led' c nm vs := by
  obtain ⟨dc, li, t, j, u, v, k, h1, h2, h3, h4, h5, h6⟩ := H
  exact ⟨dc, li, t, j, u, v, k, h _ _ h1 h4, h _ _ h2 h5, h _ _ h3 h6, h4, h5, h6⟩
theorem nbX {prog : Program} {w : World} {p : Program} {loose : List Str} {mean : ExcName → Option Value} {mg mb : Str → Option Value} {pc : Addr} {kw : List (Str × Value)} {lj : Addr} {vs : List Value} {kj : Nat}
    (H : NbTells prog w p loose mean mg mb pc kw lj vs kj)
    {dp un : Nat} {gd : Option (List Code)} {cn : Str} {cs : Scope} {a : Addr} {ccd : Value} {cl : List (Str × Addr)} {outer : List Env} {A₀ : Around} {base h₀ : Heap} {L : Addr} {m : Str → Option Value} {led : List (Addr × Obj)} {s : Shared}
    {Q E : Value → Shared → Prop} {mm dns ls imp db pa dpg dm : Addr} {tb : Tok} {tm tp : Nat → Tok} {jm jp : Nat → Value} {ob ons : Obj} {nkv : List (Option Str × Value)} {kl : Nat} {kvs : List (Str × Value)} {nm : Str} {tn : Tok} {at_ : Int} {ta : Tok}
    (B : Below A₀ base outer h₀) (F : Fr h₀ L s.heap m) (X : (topHead.heap_39 w.params).In h₀) (N : News h₀ L s.heap led) (T : Top p loose mean mg mb h₀) (hk : cs.kind = .function)
    (hmm : (mm, instObj 267 dm) ∈ led) (hdm : (dm, mmD w tm jm dns ls imp) ∈ led) (hdns : (dns, ons) ∈ led) (hod : ons.IsDictOf (nsKind prog w) nkv) (hlo : (dns == sysModules) = false) (hval : valueAt nkv (some (Str.ofString "__base__")) = some (.ref db))
    (hls : (ls, listOf #[.str (Str.ofString "__base__") tb] kl) ∈ led) (hdb : (db, ob) ∈ led) (hob : ob.IsDictOf (PySem.strKind prog w) kvs) (hkl : kvs.length ≤ 30) (hpa : (pa, instObj pc dpg) ∈ led) (hdp : (dpg, pegD w tp jp) ∈ led)
    (hlj : vs ≠ [] → (lj, listOf vs.toArray kj) ∈ led ∧ @LT.lt Nat _ db lj)
    (hne : @Ne Nat mm db ∧ @Ne Nat mm dpg ∧ @Ne Nat dm db ∧ @Ne Nat dm dpg ∧ @Ne Nat dns db ∧ @Ne Nat dns dpg ∧ @Ne Nat ls db ∧ @Ne Nat ls dpg ∧ @Ne Nat pa db ∧ @Ne Nat pa dpg ∧ @LT.lt Nat _ dpg db)
    (hdep : dp + 20 < recursionLimit) (hun : un + 200 < cLine)
    (ret : ∀ c ob' h' tk' led', Fr h₀ L h' m → News h₀ L h' led' → (db, ob') ∈ led' → ob'.IsDictOf (PySem.strKind prog w) (stored kvs nm (.ref c)) → ClsB w db led' c nm vs →
      (∀ x o, (x, o) ∈ led → @Ne Nat x db → @Ne Nat x dpg → (x, o) ∈ led') → Q (.ref c) { s with heap := h', toks := tk' }) :
    wpAny (model prog w) (ktrTop dp un gd cn cs L a ccd cl outer) (call (.ref 212) [.ref mm, .str nm tn, .ref pa, .int at_ ta] kw) Q E s := by
  obtain ⟨n1, n2, n3, n4, n5, n6, n7, n8, n9, n10, n11⟩ := hne
  have up : ∀ x o, (x, o) ∈ led → @Ne Nat x db → @Ne Nat x dpg → (x, o) ∈ off db (off dpg led) := fun x o hx h1 h2 => off_mem (off_mem hx h2) h1
  refine H dp un gd cn cs a ccd cl outer A₀ base h₀ L m (off db (off dpg led)) s Q E mm dns ls imp db pa dpg tb tp jp ob kvs nm tn at_ ta B F X ?_ T hk ?_ hob off_ne (fun q hq => off_ne q (off_sub q hq)) (by omega) hkl (up _ _ hpa n9 n10) (fun hv => up _ _ (hlj hv).1 (by have := (hlj hv).2; omega) (by have := (hlj hv).2; omega)) hdep hun ?_
  · intro q hq
    rcases List.mem_cons.mp hq with rfl | hq
    · exact N _ hdb
    rcases List.mem_cons.mp hq with rfl | hq
    · exact N _ hdp
    exact N _ (off_sub _ (off_sub _ hq))
  · exact ⟨dm, tm, jm, ons, nkv, kl, up _ _ hmm n1 n2, up _ _ hdm n3 n4, up _ _ hdns n5 n6, hod, hlo, hval, ns_str _ _ _ _, up _ _ hls n7 n8⟩
  · intro c dc li kl ob' t j u v h' tk' F' N' hob' l1 l2 l3 l4 l5
    refine ret c ob' h' tk' _ F' N' (.tail _ (.tail _ (.tail _ (.head _)))) hob' ⟨dc, li, t, j, u, v, kl, .head _, .tail _ (.head _), .tail _ (.tail _ (.head _)), l3, l4, ?_⟩ fun x o hx h1 h2 => .tail _ (.tail _ (.tail _ (.tail _ (up x o hx h1 h2))))
    by_cases hv : vs = []
    · rw [if_pos hv] at l5; exact l5.2
    · rw [if_neg hv] at l5; rw [l5]; exact (hlj hv).2
theorem pull3 {h₀ h : Heap} {L a b c : Addr} {oa ob oc : Obj} {led : List (Addr × Obj)} (N : News h₀ L h led) (ha : (a, oa) ∈ led) (hb : (b, ob) ∈ led) (hc : (c, oc) ∈ led) : News h₀ L h ((a, oa) :: (b, ob) :: (c, oc) :: off a (off b (off c led))) := by
  intro p hp
  rcases List.mem_cons.mp hp with rfl | hp
  · exact N _ ha
  rcases List.mem_cons.mp hp with rfl | hp
  · exact N _ hb
  rcases List.mem_cons.mp hp with rfl | hp
  · exact N _ hc
  · exact N p (off_sub _ (off_sub _ (off_sub _ hp)))
end Mine
end
section
open PySem PySem.W PyProof.Rows PySem.Calls PySem.Spec
set_option maxRecDepth 100000
namespace Mine
/-- the nine names of the base -/
def nine : List Str := [Str.ofString "ID", Str.ofString "STRING", Str.ofString "BOOL", Str.ofString "INT", Str.ofString "FLOAT", Str.ofString "STRICTFLOAT", Str.ofString "NUMBER", Str.ofString "BASETYPE", Str.ofString "OBJECT"]
/-- the base's heirs -/
def baseKids (n : Str) : List Str := ([(Str.ofString "ID", []), (Str.ofString "STRING", []), (Str.ofString "BOOL", []), (Str.ofString "INT", []), (Str.ofString "FLOAT", []), (Str.ofString "STRICTFLOAT", []), (Str.ofString "NUMBER", [Str.ofString "STRICTFLOAT", Str.ofString "INT"]), (Str.ofString "BASETYPE", [Str.ofString "NUMBER", Str.ofString "FLOAT", Str.ofString "BOOL", Str.ofString "ID", Str.ofString "STRING"]), (Str.ofString "OBJECT", [Str.ofString "BASETYPE"])].lookup n).getD []
/-- where the nine lie -/
def adr9 (c_id c_st c_bo c_in c_fl c_sf c_nu c_ba c_ob : Addr) (n : Str) : Addr := ([(Str.ofString "ID", c_id), (Str.ofString "STRING", c_st), (Str.ofString "BOOL", c_bo), (Str.ofString "INT", c_in), (Str.ofString "FLOAT", c_fl), (Str.ofString "STRICTFLOAT", c_sf), (Str.ofString "NUMBER", c_nu), (Str.ofString "BASETYPE", c_ba), (Str.ofString "OBJECT", c_ob)].lookup n).getD 0
def Made (prog : Program) (w : World) (led : List (Addr × Obj)) (mm du : Addr) (adr : Str → Addr) : Prop :=
  ∃ (dns ls imp db lb : Addr) (oi ob : Obj) (ikv : List (Option Str × Value)) (bkv : List (Str × Value)) (kl : Nat), MmIn prog w led mm dns ls imp du none .none ∧ (imp, oi) ∈ led ∧ oi.IsDictOf (nsKind prog w) ikv ∧ valueAt ikv none = some (.ref lb) ∧
    (lb, listOf #[.ref db] kl) ∈ led ∧ (db, ob) ∈ led ∧ ob.IsDictOf (PySem.strKind prog w) bkv ∧ (db == sysModules) = false ∧ (∀ n ∈ nine, valueAt bkv n = some (.ref (adr n))) ∧ (∀ n ∈ nine, ClsB w db led (adr n) n ((baseKids n).map fun k => .ref (adr k))) ∧ (imp == sysModules) = false
theorem made_of {prog : Program} {w : World} {R : List (Addr × Obj)} {mm d' dns ls imp db lb lb2 du : Addr} {c_id c_st c_bo c_in c_fl c_sf c_nu c_ba c_ob : Addr} {tm : Nat → Tok} {jm : Nat → Value} {od oi ob : Obj} {k : Nat}
    (hmm : (mm, instObj 267 d') ∈ R) (hdm : (d', mmD w tm jm dns ls imp) ∈ R) (lo_dns : (dns == sysModules) = false) (lo_imp : (imp == sysModules) = false) (lo_db : (db == sysModules) = false)
    (hod : od.IsDictOf (nsKind prog w) (stored (stored [] (some (Str.ofString "__base__")) (.ref db)) none (.ref du))) (hoi : oi.IsDictOf (nsKind prog w) (stored (stored [] (some (Str.ofString "__base__")) (.ref lb)) none (.ref lb2)))
    (hdb : (db, ob) ∈ R) (hob : ob.IsDictOf (PySem.strKind prog w) (stored (stored (stored (stored (stored (stored (stored (stored (stored ([]) (Str.ofString "ID") (.ref c_id)) (Str.ofString "STRING") (.ref c_st)) (Str.ofString "BOOL") (.ref c_bo)) (Str.ofString "INT") (.ref c_in)) (Str.ofString "FLOAT") (.ref c_fl)) (Str.ofString "STRICTFLOAT") (.ref c_sf)) (Str.ofString "NUMBER") (.ref c_nu)) (Str.ofString "BASETYPE") (.ref c_ba)) (Str.ofString "OBJECT") (.ref c_ob))) (hC_id : ClsB w db R c_id (Str.ofString "ID") []) (hC_st : ClsB w db R c_st (Str.ofString "STRING") []) (hC_bo : ClsB w db R c_bo (Str.ofString "BOOL") []) (hC_in : ClsB w db R c_in (Str.ofString "INT") []) (hC_fl : ClsB w db R c_fl (Str.ofString "FLOAT") []) (hC_sf : ClsB w db R c_sf (Str.ofString "STRICTFLOAT") []) (hC_nu : ClsB w db R c_nu (Str.ofString "NUMBER") [.ref c_sf, .ref c_in]) (hC_ba : ClsB w db R c_ba (Str.ofString "BASETYPE") [.ref c_nu, .ref c_fl, .ref c_bo, .ref c_id, .ref c_st]) (hC_ob : ClsB w db R c_ob (Str.ofString "OBJECT") [.ref c_ba]) :
    Made prog w ((lb2, listOf #[.ref db] 0) :: (ls, listOf #[.none] k) :: (dns, od) :: (imp, oi) :: R) mm du (adr9 c_id c_st c_bo c_in c_fl c_sf c_nu c_ba c_ob) := by
  refine ⟨dns, ls, imp, db, lb2, oi, ob, _, _, 0, ⟨d', tm, jm, od, _, k, .tail _ (.tail _ (.tail _ (.tail _ hmm))), .tail _ (.tail _ (.tail _ (.tail _ hdm))), .tail _ (.tail _ (.head _)), hod, lo_dns, valueAt_stored _ _ _, rfl, .tail _ (.head _)⟩,
    .tail _ (.tail _ (.tail _ (.head _))), hoi, valueAt_stored _ _ _, .head _, .tail _ (.tail _ (.tail _ (.tail _ hdb))), hob, lo_db, ?_, ?_, lo_imp⟩
  · intro n hn
    simp only [nine, List.mem_cons, List.not_mem_nil, or_false] at hn
    rcases hn with rfl | rfl | rfl | rfl | rfl | rfl | rfl | rfl | rfl <;> kernel_rfl
  · have up : ∀ x o, (x, o) ∈ R → (x, o) ∈ ((lb2, listOf #[.ref db] 0) :: (ls, listOf #[.none] k) :: (dns, od) :: (imp, oi) :: R) := fun x o h => .tail _ (.tail _ (.tail _ (.tail _ h)))
    intro n hn
    simp only [nine, List.mem_cons, List.not_mem_nil, or_false] at hn
    rcases hn with rfl | rfl | rfl | rfl | rfl | rfl | rfl | rfl | rfl
    · have e1 : adr9 c_id c_st c_bo c_in c_fl c_sf c_nu c_ba c_ob (Str.ofString "ID") = c_id := by kernel_rfl
      have e2 : ((baseKids (Str.ofString "ID")).map fun k => Value.ref (adr9 c_id c_st c_bo c_in c_fl c_sf c_nu c_ba c_ob k)) = [] := by kernel_rfl
      rw [e1, e2]
      exact hC_id.keep (fun x o h _ => up x o h)
    · have e1 : adr9 c_id c_st c_bo c_in c_fl c_sf c_nu c_ba c_ob (Str.ofString "STRING") = c_st := by kernel_rfl
      have e2 : ((baseKids (Str.ofString "STRING")).map fun k => Value.ref (adr9 c_id c_st c_bo c_in c_fl c_sf c_nu c_ba c_ob k)) = [] := by kernel_rfl
      rw [e1, e2]
      exact hC_st.keep (fun x o h _ => up x o h)
    · have e1 : adr9 c_id c_st c_bo c_in c_fl c_sf c_nu c_ba c_ob (Str.ofString "BOOL") = c_bo := by kernel_rfl
      have e2 : ((baseKids (Str.ofString "BOOL")).map fun k => Value.ref (adr9 c_id c_st c_bo c_in c_fl c_sf c_nu c_ba c_ob k)) = [] := by kernel_rfl
      rw [e1, e2]
      exact hC_bo.keep (fun x o h _ => up x o h)
    · have e1 : adr9 c_id c_st c_bo c_in c_fl c_sf c_nu c_ba c_ob (Str.ofString "INT") = c_in := by kernel_rfl
      have e2 : ((baseKids (Str.ofString "INT")).map fun k => Value.ref (adr9 c_id c_st c_bo c_in c_fl c_sf c_nu c_ba c_ob k)) = [] := by kernel_rfl
      rw [e1, e2]
      exact hC_in.keep (fun x o h _ => up x o h)
    · have e1 : adr9 c_id c_st c_bo c_in c_fl c_sf c_nu c_ba c_ob (Str.ofString "FLOAT") = c_fl := by kernel_rfl
      have e2 : ((baseKids (Str.ofString "FLOAT")).map fun k => Value.ref (adr9 c_id c_st c_bo c_in c_fl c_sf c_nu c_ba c_ob k)) = [] := by kernel_rfl
      rw [e1, e2]
      exact hC_fl.keep (fun x o h _ => up x o h)
    · have e1 : adr9 c_id c_st c_bo c_in c_fl c_sf c_nu c_ba c_ob (Str.ofString "STRICTFLOAT") = c_sf := by kernel_rfl
      have e2 : ((baseKids (Str.ofString "STRICTFLOAT")).map fun k => Value.ref (adr9 c_id c_st c_bo c_in c_fl c_sf c_nu c_ba c_ob k)) = [] := by kernel_rfl
      rw [e1, e2]
      exact hC_sf.keep (fun x o h _ => up x o h)
    · have e1 : adr9 c_id c_st c_bo c_in c_fl c_sf c_nu c_ba c_ob (Str.ofString "NUMBER") = c_nu := by kernel_rfl
      have e2 : ((baseKids (Str.ofString "NUMBER")).map fun k => Value.ref (adr9 c_id c_st c_bo c_in c_fl c_sf c_nu c_ba c_ob k)) = [.ref c_sf, .ref c_in] := by kernel_rfl
      rw [e1, e2]
      exact hC_nu.keep (fun x o h _ => up x o h)
    · have e1 : adr9 c_id c_st c_bo c_in c_fl c_sf c_nu c_ba c_ob (Str.ofString "BASETYPE") = c_ba := by kernel_rfl
      have e2 : ((baseKids (Str.ofString "BASETYPE")).map fun k => Value.ref (adr9 c_id c_st c_bo c_in c_fl c_sf c_nu c_ba c_ob k)) = [.ref c_nu, .ref c_fl, .ref c_bo, .ref c_id, .ref c_st] := by kernel_rfl
      rw [e1, e2]
      exact hC_ba.keep (fun x o h _ => up x o h)
    · have e1 : adr9 c_id c_st c_bo c_in c_fl c_sf c_nu c_ba c_ob (Str.ofString "OBJECT") = c_ob := by kernel_rfl
      have e2 : ((baseKids (Str.ofString "OBJECT")).map fun k => Value.ref (adr9 c_id c_st c_bo c_in c_fl c_sf c_nu c_ba c_ob k)) = [.ref c_ba] := by kernel_rfl
      rw [e1, e2]
      exact hC_ob.keep (fun x o h _ => up x o h)
/-- `TextXMetaModel()` -/
def MmTells (prog : Program) (w : World) (p : Program) (loose : List Str) (mean : ExcName → Option Value) (mg mb : Str → Option Value) : Prop :=
  ∀ (dp un : Nat) (gd : Option (List Code)) (cn : Str) (cs : Scope) (a : Addr) (ccd : Value) (cl : List (Str × Addr)) (outer : List Env) (A₀ : Around) (base h₀ : Heap) (L : Addr) (m : Str → Option Value) (news : List (Addr × Obj)) (s : Shared)
    (Q E : Value → Shared → Prop),
    Below A₀ base outer h₀ → Fr h₀ L s.heap m → (topHead.heap_39 w.params).In h₀ → News h₀ L s.heap news → Top p loose mean mg mb h₀ → cs.kind = .function → dp + 60 < recursionLimit → un + 600 < cLine →
    (∀ mm du odu adr led h' tk', Fr h₀ L h' m → News h₀ L h' ((du, odu) :: (led ++ news)) → odu.IsDictOf (PySem.strKind prog w) [] → (du == sysModules) = false → (∀ q ∈ led, q.1 ≠ du) → (∀ p ∈ news, @LT.lt Nat _ p.1 du) → (∀ q ∈ led, ∀ p ∈ news, @LT.lt Nat _ p.1 q.1) → Made prog w led mm du adr → Q (.ref mm) { s with heap := h', toks := tk' }) →
    wpAny (model prog w) (ktrTop dp un gd cn cs L a ccd cl outer) (call (.ref 267) []) Q E s
end Mine
end
section
open PySem PySem.W PyProof.Rows PySem.Calls PySem.Spec
set_option maxRecDepth 100000
set_option rowWalk.seconds 0
namespace Mine
theorem fresh_mm : True := by
  w_top off
  trivial
local macro_rules | `(tactic| k_mem) => `(tactic| first | exact List.mem_cons_self | (refine List.mem_cons_of_mem _ ?_; k_mem) | assumption)
local macro_rules | `(tactic| k_room) => `(tactic| ktr_room)
theorem br_use {prog : Program} {w : World} {p : Program} {loose : List Str} {mean : ExcName → Option Value} {mg mb : Str → Option Value}
    {dp un : Nat} {gd : Option (List Code)} {cn : Str} {cs : Scope} {a : Addr} {ccd : Value} {cl : List (Str × Addr)} {outer : List Env} {A₀ : Around} {base h₀ : Heap} {L : Addr} {m : Str → Option Value} {news : List (Addr × Obj)} {s : Shared}
    {Q E : Value → Shared → Prop} (B : Below A₀ base outer h₀) (F : Fr h₀ L s.heap m) (X : (topHead.heap_39 w.params).In h₀) (N : News h₀ L s.heap news) (T : Top p loose mean mg mb h₀) (hk : cs.kind = .function)
    (hdp : dp + 30 < recursionLimit) (hun : un + 300 < cLine)
    (ret : (∀ (T x_id x_st x_bo x_in x_fl x_sf x_nu x_ba x_ob d_id d_st d_bo d_in d_fl d_sf d_nu d_ba d_ob : Addr) (t_id t_st t_bo t_in t_fl t_sf t_nu t_ba t_ob : Nat → Tok) (j_id j_st j_bo j_in j_fl j_sf j_nu j_ba j_ob : Nat → Value) h' tk', Fr h₀ L h' m → News h₀ L h' ((T, ({ cls := .type "tuple", data := .seq #[.ref x_id, .ref x_st, .ref x_bo, .ref x_in, .ref x_fl, .ref x_sf, .ref x_nu, .ref x_ba, .ref x_ob] } : Obj)) :: (x_id, instObj 152 d_id) ::  (x_st, instObj 152 d_st) ::  (x_bo, instObj 152 d_bo) ::  (x_in, instObj 152 d_in) ::  (x_fl, instObj 152 d_fl) ::  (x_sf, instObj 152 d_sf) ::  (x_nu, instObj 128 d_nu) ::  (x_ba, instObj 128 d_ba) ::  (x_ob, instObj 152 d_ob) ::  (d_id, pegD w t_id j_id) ::  (d_st, pegD w t_st j_st) ::  (d_bo, pegD w t_bo j_bo) ::  (d_in, pegD w t_in j_in) ::  (d_fl, pegD w t_fl j_fl) ::  (d_sf, pegD w t_sf j_sf) ::  (d_nu, pegD w t_nu j_nu) ::  (d_ba, pegD w t_ba j_ba) ::  (d_ob, pegD w t_ob j_ob) ::  news) → (∀ q ∈ news, q.1 < d_id) → @LT.lt Nat _ d_id x_id → @LT.lt Nat _ x_id d_bo → @LT.lt Nat _ d_bo x_bo → @LT.lt Nat _ x_bo d_in → @LT.lt Nat _ d_in x_in → @LT.lt Nat _ x_in d_fl → @LT.lt Nat _ d_fl x_fl → @LT.lt Nat _ x_fl d_sf → @LT.lt Nat _ d_sf x_sf → @LT.lt Nat _ x_sf d_st → @LT.lt Nat _ d_st x_st → @LT.lt Nat _ x_st d_nu → @LT.lt Nat _ d_nu x_nu → @LT.lt Nat _ x_nu d_ba → @LT.lt Nat _ d_ba x_ba → @LT.lt Nat _ x_ba d_ob → @LT.lt Nat _ d_ob x_ob → @LT.lt Nat _ x_ob T → Q (.ref T) { s with heap := h', toks := tk' })) :
    wpAny (model prog w) (ktrTop dp un gd cn cs L a ccd cl outer) (call (.ref 161) []) Q E s :=
  br_tells dp un gd cn cs a ccd cl outer A₀ base h₀ L m news s Q E B F X N T hk hdp hun ret
local macro_rules | `(tactic| walk_at "call ref") => `(tactic| (k_here; (first | (with_reducible show wpAny _ _ (call (Value.ref 197) _ _) _ _ _) | (with_reducible show wpAny _ _ (call (Value.ref 204) _ _) _ _ _) | (with_reducible show wpAny _ _ (call (Value.ref 190) _ _) _ _ _)); refine wpAny_call ?_; k_dflt (refine' code_def ?k1 ?k2 ?k3 ?k4 ?k5 ?kA ?kF ?kK ?k6 ?k7 ?k8 ?k9 ?kB ?_ ?c2 ?c3 ?c4 ?c5; (case kA => exact rfl); (case kF => exact rfl); (case kK => first | exact rfl | assumption); (case k1 => k_asm); (case k2 => k_asm); (case k3 => k_asm); (case k4 => k_asm); (case k5 => k_asm); (case k6 => k_is); (case k7 => k_is); (case k8 => k_room); (case k9 => exact BindsTo.of_eq rfl); (case c5 => decide); (case kB => exact locs rfl); (case c2 => exact rfl); (case c3 => exact rfl); (case c4 => exact rfl); k_whole; intro g' L' h' FG' F' N' B' X' T'; (try dsimp only); (try k_fold))))
theorem absL {h₀ h : Heap} {L : Addr} {R : List (Addr × Obj)} {P : List (Addr × Obj) → Prop} (N : News h₀ L h R) (hP : P R) : ∃ R, News h₀ L h R ∧ P R := ⟨R, N, hP⟩
theorem abs3 {h₀ h : Heap} {L : Addr} {a1 a2 a3 : Addr × Obj} {R : List (Addr × Obj)} {P : List (Addr × Obj) → Prop} (N : News h₀ L h (a1 :: a2 :: a3 :: R)) (hP : P R) : ∃ R, News h₀ L h (a1 :: a2 :: a3 :: R) ∧ P R := ⟨R, N, hP⟩
theorem absR {h₀ h : Heap} {L : Addr} {a1 a2 a3 a4 a5 a6 a7 a8 a9 a10 a11 a12 : Addr × Obj} {R : List (Addr × Obj)} {P : List (Addr × Obj) → Prop} (N : News h₀ L h (a1 :: a2 :: a3 :: a4 :: a5 :: a6 :: a7 :: a8 :: a9 :: a10 :: a11 :: a12 :: R)) (hP : P R) :
    ∃ R, News h₀ L h (a1 :: a2 :: a3 :: a4 :: a5 :: a6 :: a7 :: a8 :: a9 :: a10 :: a11 :: a12 :: R) ∧ P R := ⟨R, N, hP⟩
theorem mmMem {w : World} {R : List (Addr × Obj)} {d dns ls imp : Addr} {a0 a1 a2 a3 a4 a5 a6 a7 a8 a9 a10 a11 a12 a13 a14 a15 a16 : Tok} {b2 b3 b4 b5 b6 b7 b8 b9 b10 b11 b12 b16 : Value} (h : (d, dictOf [en w "file_name" a0 (.none), en w "rootcls" a1 (.none), en w "builtins" a2 (b2), en w "builtin_models" a3 (b3), en w "auto_init_attributes" a4 (b4), en w "ignore_case" a5 (b5), en w "skipws" a6 (b6), en w "ws" a7 (b7), en w "autokwd" a8 (b8), en w "memoization" a9 (b9), en w "textx_tools_support" a10 (b10), en w "use_regexp_group" a11 (b11), en w "scope_providers" a12 (b12), en w "namespaces" a13 (.ref dns), en w "_namespace_stack" a14 (.ref ls), en w "_imported_namespaces" a15 (.ref imp), en w "referenced_languages" a16 (b16)] 17) ∈ R) : ∃ tm jm, (d, mmD w tm jm dns ls imp) ∈ R :=
  ⟨fun i => [a0, a1, a2, a3, a4, a5, a6, a7, a8, a9, a10, a11, a12, a13, a14, a15, a16].getD i 0, fun i => [.none, .none, b2, b3, b4, b5, b6, b7, b8, b9, b10, b11, b12, .ref dns, .ref ls, .ref imp, b16].getD i .none, h⟩
theorem units_make (A : Around) (args : Args) : (A.under (.builtin "type.__call__" args)).units = A.units + 1 := by rfl
local macro_rules | `(tactic| ktr_units) => `(tactic| (simp only [units_make, units_deeper, units_in1]; (try dsimp only [ktrTop]); omega))
local macro_rules | `(tactic| walk_at "eval Dict nil nil") => `(tactic| refine halt ?_)
local macro_rules | `(tactic| walk_at "newList") => `(tactic| refine halt ?_)
local macro_rules | `(tactic| walk_at "call ref nil") => `(tactic| ((with_reducible show wpAny _ _ (call (Value.ref 161) _ _) _ _ _); refine halt ?_))
local macro_rules | `(tactic| walk_at "call ref") => `(tactic| ((with_reducible show wpAny _ _ (call (Value.ref 212) _ _) _ _ _); refine halt ?_))
local macro_rules | `(tactic| walk_at "compareOp NotIn str ref") => `(tactic| refine halt ?_)
local macro_rules | `(tactic| walk_at "compareOp NotIn none ref") => `(tactic| refine halt ?_)
local macro_rules | `(tactic| k_in) => `(tactic| exact Frag.In.keeps (by with_reducible assumption) (Fr.keep (by with_reducible assumption)))
local macro_rules | `(tactic| k_all) => `(tactic| with_reducible assumption)
local macro_rules | `(tactic| walk_at "setItem ref str ref") => `(tactic| (k_here; k_dflt (refine' kda_set (knd := nsKind _ _) ?F ?N ?U ?d (ns_str _ _ _ _) ?z ?_; (case F => k_asm); (case N => k_asm); (case U => k_updF); (case d => k_asm); (case z => rw [sizeLine_eq]; decide)); intro h' o' F' N' hd'; (try dsimp only at N')))
local macro_rules | `(tactic| walk_at "setItem ref none ref") => `(tactic| (k_here; k_dflt (refine' kda_set (knd := nsKind _ _) ?F ?N ?U ?d (ns_none _ _) ?z ?_; (case F => k_asm); (case N => k_asm); (case U => k_updF); (case d => k_asm); (case z => rw [sizeLine_eq]; exact Nat.le_trans (stored_length_le _ _ _) (by decide))); intro h' o' F' N' hd'; (try dsimp only at N')))
local macro_rules | `(tactic| walk_at "subscriptTail Attribute Name Constant ref str") => `(tactic| (k_here; k_dflt (refine kda_itemA (knd := nsKind _ _) (by k_asm) (by k_mem) (by k_asm) (ns_str _ _ _ _) (by first | exact valueAt_stored _ _ _ | exact (valueAt_stored_ne _ (by simp) _).trans (valueAt_stored _ _ _)) ?_)))
set_option maxHeartbeats 0 in
theorem mm_tells {prog : Program} {w : World} {p : Program} {loose : List Str} {mean : ExcName → Option Value} {mg mb : Str → Option Value} : MmTells prog w p loose mean mg mb := by
  have hfill : (topHead.heap_39 w.params).In ({} : Heap) → PySem.Challenge.rw_ez0375_01 = PySem.Challenge.rw_ez0375_01 := by k_fill; intro _; rfl
  clear hfill
  intro dp un gd cn cs a ccd cl outer A₀ base h₀ L m news s Q E B F X N T hk hdp hun hret
  k_dflt (refine' call_cls ?k1 ?k2 ?k3 ?k4 ?k5 ?k6 ?_; (case k1 => k_asm); (case k2 => k_asm); (case k3 => k_asm); (case k4 => k_is); (case k5 => k_is); (case k6 => k_is); k_whole; intro x' d' h' F' N' l1 l2; (try k_sweep))
  have a0 : AllLt d' news := allLt_of l1
  have c0 : @LT.lt Nat _ d' x' := l2
  clear l1 l2
  k_dflt (refine' code_def (binds := [(Str.ofString "self", .ref x'), (Str.ofString "file_name", .none), (Str.ofString "classes", .none), (Str.ofString "builtins", .none), (Str.ofString "builtin_models", .none), (Str.ofString "auto_init_attributes", .bool true), (Str.ofString "ignore_case", .bool false), (Str.ofString "skipws", .bool true), (Str.ofString "ws", .none), (Str.ofString "autokwd", .bool false), (Str.ofString "memoization", .bool false), (Str.ofString "textx_tools_support", .bool false), (Str.ofString "use_regexp_group", .bool false)]) ?k1 ?k2 ?k3 ?k4 ?k5 ?kA ?kF ?kK ?k6 ?k7 ?k8 ?k9 ?kB ?_ ?c2 ?c3 ?c4 ?c5; (case kA => exact rfl); (case kF => exact rfl); (case kK => first | exact rfl | assumption); (case k1 => k_asm); (case k2 => k_asm); (case k3 => k_asm); (case k4 => k_asm); (case k5 => k_asm); (case k6 => k_is); (case k7 => k_is); (case k8 => k_room); (case k9 => exact binds_K (by k_in) rfl (by k_is) rfl rfl rfl); (case c5 => decide); (case kB => exact locs rfl); (case c2 => exact rfl); (case c3 => exact rfl); (case c4 => exact rfl); k_whole; intro g' L' h' FG' F' N' B' X' T'; (try dsimp only); (try k_lift B'); (try k_fold))
  k_steps
  show wpAny _ _ _ _ _ _
  k_dflt (refine' newDict_K ?k1 ?k2 (TopRead.nolimit (by k_asm)) ?_; (case k1 => k_asm); (case k2 => k_asm); k_whole; intro sp h' o_sp F' N' l1 lo_sp hs_sp fs' hi' fi'; (try k_sweep))
  have c1 : @LT.lt Nat _ x' sp := l1 (x', _) (by k_mem)
  clear l1 fs' hi' fi'
  k_steps
  show wpAny _ _ _ _ _ _
  k_dflt (refine' newDict_K ?k1 ?k2 (TopRead.nolimit (by k_asm)) ?_; (case k1 => k_asm); (case k2 => k_asm); k_whole; intro dns h' o_dns F' N' l1 lo_dns hs_dns fs' hi' fi'; (try k_sweep))
  have c2 : @LT.lt Nat _ sp dns := l1 (sp, _) (by k_mem)
  clear l1 fs' hi' fi'
  k_steps
  show wpAny _ _ _ _ _ _
  k_dflt (refine' newList_K ?k1 ?k2 ?_; (case k1 => k_asm); (case k2 => k_asm); k_whole; intro ls h' F' N' l1; (try k_sweep))
  have c3 : @LT.lt Nat _ dns ls := l1 (dns, _) (by k_mem)
  clear l1
  k_steps
  show wpAny _ _ _ _ _ _
  k_dflt (refine' newDict_K ?k1 ?k2 (TopRead.nolimit (by k_asm)) ?_; (case k1 => k_asm); (case k2 => k_asm); k_whole; intro imp h' o_imp F' N' l1 lo_imp hs_imp fs' hi' fi'; (try k_sweep))
  have c4 : @LT.lt Nat _ ls imp := l1 (ls, _) (by k_mem)
  clear l1 fs' hi' fi'
  k_steps
  show wpAny _ _ _ _ _ _
  k_dflt (refine' newDict_K ?k1 ?k2 (TopRead.nolimit (by k_asm)) ?_; (case k1 => k_asm); (case k2 => k_asm); k_whole; intro rf h' o_rf F' N' l1 lo_rf hs_rf fs' hi' fi'; (try k_sweep))
  have c5 : @LT.lt Nat _ imp rf := l1 (imp, _) (by k_mem)
  clear l1 fs' hi' fi'
  k_steps
  show wpAny _ _ _ _ _ _
  with_reducible show wpAny _ _ (call (Value.ref 161) _ _) _ _ _
  with_unfolding_all show wpAny _ _ (call (Value.ref _) [] []) _ _ _
  k_dflt (refine' br_use ?B ?F ?X ?N ?T ?hk ?dd ?uu ?_; (case B => k_asm); (case F => k_asm); (case X => k_asm); (case N => k_asm); (case T => k_asm); (case hk => first | exact rfl | assumption); (case dd => ktr_room); (case uu => ktr_units); k_whole; intro T' x_id x_st x_bo x_in x_fl x_sf x_nu x_ba x_ob d_id d_st d_bo d_in d_fl d_sf d_nu d_ba d_ob t_id t_st t_bo t_in t_fl t_sf t_nu t_ba t_ob j_id j_st j_bo j_in j_fl j_sf j_nu j_ba j_ob h' tk' F' N' l0 e0 e1 e2 e3 e4 e5 e6 e7 e8 e9 e10 e11 e12 e13 e14 e15 e16 e17; (try k_sweep))
  have c6 : @LT.lt Nat _ rf d_id := l0 (rf, _) (by k_mem)
  clear l0
  k_steps
  show wpAny _ _ _ _ _ _
  (rename News _ _ _ _ => N9)
  have N10 := newsC N9 (a := (dns, o_dns)) (by k_mem)
    (newsC N9 (a := (imp, o_imp)) (by k_mem)
    (newsC N9 (a := (ls, listOf #[] 0)) (by k_mem)
    (newsC N9 (a := (d_id, pegD w t_id j_id)) (by k_mem)
    (newsC N9 (a := (d_st, pegD w t_st j_st)) (by k_mem)
    (newsC N9 (a := (d_bo, pegD w t_bo j_bo)) (by k_mem)
    (newsC N9 (a := (d_in, pegD w t_in j_in)) (by k_mem)
    (newsC N9 (a := (d_fl, pegD w t_fl j_fl)) (by k_mem)
    (newsC N9 (a := (d_sf, pegD w t_sf j_sf)) (by k_mem)
    (newsC N9 (a := (d_nu, pegD w t_nu j_nu)) (by k_mem)
    (newsC N9 (a := (d_ba, pegD w t_ba j_ba)) (by k_mem)
    (newsC N9 (a := (d_ob, pegD w t_ob j_ob)) (by k_mem)
    (newsC N9 (a := (x', instObj 267 d')) (by k_mem)
    (newsC N9 (a := (d', _)) (by k_mem)
    (newsC N9 (a := (x_id, instObj 152 d_id)) (by k_mem)
    (newsC N9 (a := (x_st, instObj 152 d_st)) (by k_mem)
    (newsC N9 (a := (x_bo, instObj 152 d_bo)) (by k_mem)
    (newsC N9 (a := (x_in, instObj 152 d_in)) (by k_mem)
    (newsC N9 (a := (x_fl, instObj 152 d_fl)) (by k_mem)
    (newsC N9 (a := (x_sf, instObj 152 d_sf)) (by k_mem)
    (newsC N9 (a := (x_nu, instObj 128 d_nu)) (by k_mem)
    (newsC N9 (a := (x_ba, instObj 128 d_ba)) (by k_mem)
    (newsC N9 (a := (x_ob, instObj 152 d_ob)) (by k_mem)
    (newsS N9 (rest := news) (by intro p hp; repeat (first | exact hp | refine List.mem_cons_of_mem _ ?_)))))))))))))))))))))))))
  clear N9
  have hP := absR (P := fun R => (x', instObj 267 d') ∈ R ∧ (∃ tm jm, (d', mmD w tm jm dns ls imp) ∈ R) ∧ (x_id, instObj 152 d_id) ∈ R ∧ (x_st, instObj 152 d_st) ∈ R ∧ (x_bo, instObj 152 d_bo) ∈ R ∧ (x_in, instObj 152 d_in) ∈ R ∧ (x_fl, instObj 152 d_fl) ∈ R ∧ (x_sf, instObj 152 d_sf) ∈ R ∧ (x_nu, instObj 128 d_nu) ∈ R ∧ (x_ba, instObj 128 d_ba) ∈ R ∧ (x_ob, instObj 152 d_ob) ∈ R ∧ (∀ q ∈ R, ∀ d ∈ [dns, imp, ls, d_id, d_st, d_bo, d_in, d_fl, d_sf, d_nu, d_ba, d_ob], q.1 ≠ d) ∧ (∀ q ∈ news, q ∈ R)) N10 ⟨by k_mem, mmMem (by k_mem), by k_mem, by k_mem, by k_mem, by k_mem, by k_mem, by k_mem, by k_mem, by k_mem, by k_mem, by
      clear N10
      intro q hq d hd
      simp only [List.mem_cons, List.not_mem_nil, or_false] at hq hd
      rcases hq with rfl | rfl | rfl | rfl | rfl | rfl | rfl | rfl | rfl | rfl | rfl | hq
      · rcases hd with rfl | rfl | rfl | rfl | rfl | rfl | rfl | rfl | rfl | rfl | rfl | rfl <;> (show @Ne Nat _ _; dsimp only; omega)
      · rcases hd with rfl | rfl | rfl | rfl | rfl | rfl | rfl | rfl | rfl | rfl | rfl | rfl <;> (show @Ne Nat _ _; dsimp only; omega)
      · rcases hd with rfl | rfl | rfl | rfl | rfl | rfl | rfl | rfl | rfl | rfl | rfl | rfl <;> (show @Ne Nat _ _; dsimp only; omega)
      · rcases hd with rfl | rfl | rfl | rfl | rfl | rfl | rfl | rfl | rfl | rfl | rfl | rfl <;> (show @Ne Nat _ _; dsimp only; omega)
      · rcases hd with rfl | rfl | rfl | rfl | rfl | rfl | rfl | rfl | rfl | rfl | rfl | rfl <;> (show @Ne Nat _ _; dsimp only; omega)
      · rcases hd with rfl | rfl | rfl | rfl | rfl | rfl | rfl | rfl | rfl | rfl | rfl | rfl <;> (show @Ne Nat _ _; dsimp only; omega)
      · rcases hd with rfl | rfl | rfl | rfl | rfl | rfl | rfl | rfl | rfl | rfl | rfl | rfl <;> (show @Ne Nat _ _; dsimp only; omega)
      · rcases hd with rfl | rfl | rfl | rfl | rfl | rfl | rfl | rfl | rfl | rfl | rfl | rfl <;> (show @Ne Nat _ _; dsimp only; omega)
      · rcases hd with rfl | rfl | rfl | rfl | rfl | rfl | rfl | rfl | rfl | rfl | rfl | rfl <;> (show @Ne Nat _ _; dsimp only; omega)
      · rcases hd with rfl | rfl | rfl | rfl | rfl | rfl | rfl | rfl | rfl | rfl | rfl | rfl <;> (show @Ne Nat _ _; dsimp only; omega)
      · rcases hd with rfl | rfl | rfl | rfl | rfl | rfl | rfl | rfl | rfl | rfl | rfl | rfl <;> (show @Ne Nat _ _; dsimp only; omega)
      have hq2 : @LT.lt Nat _ q.1 d' := tb_ltOf a0 q hq
      rcases hd with rfl | rfl | rfl | rfl | rfl | rfl | rfl | rfl | rfl | rfl | rfl | rfl <;> (show @Ne Nat _ _; omega)
    , by
      intro p hp; repeat (first | exact hp | refine List.mem_cons_of_mem _ ?_)⟩
  clear N10
  obtain ⟨R, N9, hmm, ⟨tm, jm, hdm⟩, hx_id, hx_st, hx_bo, hx_in, hx_fl, hx_sf, hx_nu, hx_ba, hx_ob, hoff, hsub⟩ := hP
  have hR_dns : ∀ q ∈ R, q.1 ≠ dns := fun q hq => hoff q hq _ (by simp)
  have hR_imp : ∀ q ∈ R, q.1 ≠ imp := fun q hq => hoff q hq _ (by simp)
  have hR_ls : ∀ q ∈ R, q.1 ≠ ls := fun q hq => hoff q hq _ (by simp)
  have hR_d_id : ∀ q ∈ R, q.1 ≠ d_id := fun q hq => hoff q hq _ (by simp)
  have hR_d_st : ∀ q ∈ R, q.1 ≠ d_st := fun q hq => hoff q hq _ (by simp)
  have hR_d_bo : ∀ q ∈ R, q.1 ≠ d_bo := fun q hq => hoff q hq _ (by simp)
  have hR_d_in : ∀ q ∈ R, q.1 ≠ d_in := fun q hq => hoff q hq _ (by simp)
  have hR_d_fl : ∀ q ∈ R, q.1 ≠ d_fl := fun q hq => hoff q hq _ (by simp)
  have hR_d_sf : ∀ q ∈ R, q.1 ≠ d_sf := fun q hq => hoff q hq _ (by simp)
  have hR_d_nu : ∀ q ∈ R, q.1 ≠ d_nu := fun q hq => hoff q hq _ (by simp)
  have hR_d_ba : ∀ q ∈ R, q.1 ≠ d_ba := fun q hq => hoff q hq _ (by simp)
  have hR_d_ob : ∀ q ∈ R, q.1 ≠ d_ob := fun q hq => hoff q hq _ (by simp)
  have hn_dns := ns_empty hs_dns
  have hn_imp := ns_empty hs_imp
  refine kda_notin (knd := nsKind prog w) N9 (by k_mem) hn_dns lo_dns (ns_str _ _ _ _) true (by rfl) ?_
  k_steps
  show wpAny _ _ _ _ _ _
  k_dflt (refine' newDict_K ?k1 ?k2 (TopRead.nolimit (by k_asm)) ?_; (case k1 => k_asm); (case k2 => k_asm); k_whole; intro db h' o_db F' N' l1 lo_db hs_db fs' hi' fi'; (try k_sweep))
  have c9 : @LT.lt Nat _ x_ob db := l1 (x_ob, _) (by k_mem)
  k_lt l1
  k_steps
  show wpAny _ _ _ _ _ _
  k_dflt (refine' newList_K ?k1 ?k2 ?_; (case k1 => k_asm); (case k2 => k_asm); k_whole; intro lb h' F' N' l1; (try k_sweep))
  k_lt l1
  k_steps
  show wpAny _ _ _ _ _ _
  (rename News _ _ _ _ => N9)
  have hP2 := absL (P := fun led => (db, o_db) ∈ led ∧ (∃ o, (dns, o) ∈ led ∧ o.IsDictOf (nsKind prog w) (stored [] (some (Str.ofString "__base__")) (.ref db))) ∧ (∃ o, (imp, o) ∈ led ∧ o.IsDictOf (nsKind prog w) (stored [] (some (Str.ofString "__base__")) (.ref lb))) ∧ (∃ tb k, (ls, listOf #[.str (Str.ofString "__base__") tb] k) ∈ led) ∧ (x', instObj 267 d') ∈ led ∧ (d', mmD w tm jm dns ls imp) ∈ led ∧ (d_id, pegD w t_id j_id) ∈ led ∧ (d_st, pegD w t_st j_st) ∈ led ∧ (d_bo, pegD w t_bo j_bo) ∈ led ∧ (d_in, pegD w t_in j_in) ∈ led ∧ (d_fl, pegD w t_fl j_fl) ∈ led ∧ (d_sf, pegD w t_sf j_sf) ∈ led ∧ (d_nu, pegD w t_nu j_nu) ∈ led ∧ (d_ba, pegD w t_ba j_ba) ∈ led ∧ (d_ob, pegD w t_ob j_ob) ∈ led ∧ (x_id, instObj 152 d_id) ∈ led ∧ (x_st, instObj 152 d_st) ∈ led ∧ (x_bo, instObj 152 d_bo) ∈ led ∧ (x_in, instObj 152 d_in) ∈ led ∧ (x_fl, instObj 152 d_fl) ∈ led ∧ (x_sf, instObj 152 d_sf) ∈ led ∧ (x_nu, instObj 128 d_nu) ∈ led ∧ (x_ba, instObj 128 d_ba) ∈ led ∧ (x_ob, instObj 152 d_ob) ∈ led ∧ (∀ q ∈ news, q ∈ led)) N9 ⟨by k_mem, ⟨_, by k_mem, by assumption⟩, ⟨_, by k_mem, by assumption⟩, ⟨_, _, by k_mem⟩, by k_mem, by k_mem, by k_mem, by k_mem, by k_mem, by k_mem, by k_mem, by k_mem, by k_mem, by k_mem, by k_mem, by k_mem, by k_mem, by k_mem, by k_mem, by k_mem, by k_mem, by k_mem, by k_mem, by k_mem, fun q hq => by have := hsub q hq; repeat (first | exact this | refine List.mem_cons_of_mem _ ?_)⟩
  have c7 : @LT.lt Nat _ d_ob db := by omega
  have c8 : @LT.lt Nat _ db lb := by omega
  clear N9 hR_dns hR_imp hR_ls hR_d_id hR_d_st hR_d_bo hR_d_in hR_d_fl hR_d_sf hR_d_nu hR_d_ba hR_d_ob hoff hmm hdm hx_id hx_st hx_bo hx_in hx_fl hx_sf hx_nu hx_ba hx_ob hsub
  obtain ⟨led, N9, hdb, ⟨o_dns1, hdns, hod⟩, ⟨o_imp1, himp, hoi⟩, ⟨tb, kls, hls⟩, hmm1, hdm1, hd_id, hd_st, hd_bo, hd_in, hd_fl, hd_sf, hd_nu, hd_ba, hd_ob, hxx_id, hxx_st, hxx_bo, hxx_in, hxx_fl, hxx_sf, hxx_nu, hxx_ba, hxx_ob, hsub1⟩ := hP2
  have hlen : ([] : List (Str × Value)).length ≤ 0 := Nat.le_refl _
  have hob := hs_db
  have hval := valueAt_stored (K := Option Str) [] (some (Str.ofString "__base__")) (.ref db)
  with_unfolding_all show wpAny _ _ (call (Value.ref 212) [Value.ref _, Value.str _ _, Value.ref _, Value.int _ _] []) _ _ _
  k_dflt (refine' nbX (nb0 (lj := 0) (kj := 0)) ?B ?F ?X N9 ?T ?hk hmm1 hdm1 hdns hod lo_dns hval hls hdb hob ?kl hxx_id hd_id ?lj ?ne ?dd ?uu ?_; (case B => k_asm); (case F => k_asm); (case X => k_asm); (case T => k_asm); (case hk => first | exact rfl | assumption); (case kl => exact Nat.le_trans hlen (by decide)); (case lj => exact fun e => absurd rfl e); (case ne => omega); (case dd => ktr_room); (case uu => ktr_units); k_whole; intro c_id ob_id h' tk' led_id F' N' hdb' hob' hC_id hkeep; (try k_sweep))
  try clear N9
  clear hxx_id hd_id hdb hob
  (rename News _ _ _ _ => N9)
  have hdb := hdb'
  have hob := hob'
  clear hdb' hob'
  have hlen := Nat.le_trans (stored_length_le _ (Str.ofString "ID") (.ref c_id)) (Nat.succ_le_succ hlen)
  replace hdns := hkeep _ _ hdns (by omega) (by omega)
  replace himp := hkeep _ _ himp (by omega) (by omega)
  replace hls := hkeep _ _ hls (by omega) (by omega)
  replace hmm1 := hkeep _ _ hmm1 (by omega) (by omega)
  replace hdm1 := hkeep _ _ hdm1 (by omega) (by omega)
  replace hxx_st := hkeep _ _ hxx_st (by omega) (by omega)
  replace hd_st := hkeep _ _ hd_st (by omega) (by omega)
  replace hxx_bo := hkeep _ _ hxx_bo (by omega) (by omega)
  replace hd_bo := hkeep _ _ hd_bo (by omega) (by omega)
  replace hxx_in := hkeep _ _ hxx_in (by omega) (by omega)
  replace hd_in := hkeep _ _ hd_in (by omega) (by omega)
  replace hxx_fl := hkeep _ _ hxx_fl (by omega) (by omega)
  replace hd_fl := hkeep _ _ hd_fl (by omega) (by omega)
  replace hxx_sf := hkeep _ _ hxx_sf (by omega) (by omega)
  replace hd_sf := hkeep _ _ hd_sf (by omega) (by omega)
  replace hxx_nu := hkeep _ _ hxx_nu (by omega) (by omega)
  replace hd_nu := hkeep _ _ hd_nu (by omega) (by omega)
  replace hxx_ba := hkeep _ _ hxx_ba (by omega) (by omega)
  replace hd_ba := hkeep _ _ hd_ba (by omega) (by omega)
  replace hxx_ob := hkeep _ _ hxx_ob (by omega) (by omega)
  replace hd_ob := hkeep _ _ hd_ob (by omega) (by omega)
  have hsub_id : ∀ q ∈ news, q ∈ led_id := fun q hq => hkeep q.1 q.2 (hsub1 q hq) (by have h9 : @LT.lt Nat _ q.1 d' := tb_ltOf a0 q hq; omega) (by have h9 : @LT.lt Nat _ q.1 d' := tb_ltOf a0 q hq; omega)
  clear hsub1
  have hsub1 := hsub_id
  clear hsub_id hkeep
  k_steps
  show wpAny _ _ _ _ _ _
  (rename News _ _ _ _ => N9)
  with_unfolding_all show wpAny _ _ (call (Value.ref 212) [Value.ref _, Value.str _ _, Value.ref _, Value.int _ _] []) _ _ _
  k_dflt (refine' nbX (nb0 (lj := 0) (kj := 0)) ?B ?F ?X N9 ?T ?hk hmm1 hdm1 hdns hod lo_dns hval hls hdb hob ?kl hxx_st hd_st ?lj ?ne ?dd ?uu ?_; (case B => k_asm); (case F => k_asm); (case X => k_asm); (case T => k_asm); (case hk => first | exact rfl | assumption); (case kl => exact Nat.le_trans hlen (by decide)); (case lj => exact fun e => absurd rfl e); (case ne => omega); (case dd => ktr_room); (case uu => ktr_units); k_whole; intro c_st ob_st h' tk' led_st F' N' hdb' hob' hC_st hkeep; (try k_sweep))
  try clear N9
  clear hxx_st hd_st hdb hob
  (rename News _ _ _ _ => N9)
  have hdb := hdb'
  have hob := hob'
  clear hdb' hob'
  have hlen := Nat.le_trans (stored_length_le _ (Str.ofString "STRING") (.ref c_st)) (Nat.succ_le_succ hlen)
  replace hdns := hkeep _ _ hdns (by omega) (by omega)
  replace himp := hkeep _ _ himp (by omega) (by omega)
  replace hls := hkeep _ _ hls (by omega) (by omega)
  replace hmm1 := hkeep _ _ hmm1 (by omega) (by omega)
  replace hdm1 := hkeep _ _ hdm1 (by omega) (by omega)
  replace hxx_bo := hkeep _ _ hxx_bo (by omega) (by omega)
  replace hd_bo := hkeep _ _ hd_bo (by omega) (by omega)
  replace hxx_in := hkeep _ _ hxx_in (by omega) (by omega)
  replace hd_in := hkeep _ _ hd_in (by omega) (by omega)
  replace hxx_fl := hkeep _ _ hxx_fl (by omega) (by omega)
  replace hd_fl := hkeep _ _ hd_fl (by omega) (by omega)
  replace hxx_sf := hkeep _ _ hxx_sf (by omega) (by omega)
  replace hd_sf := hkeep _ _ hd_sf (by omega) (by omega)
  replace hxx_nu := hkeep _ _ hxx_nu (by omega) (by omega)
  replace hd_nu := hkeep _ _ hd_nu (by omega) (by omega)
  replace hxx_ba := hkeep _ _ hxx_ba (by omega) (by omega)
  replace hd_ba := hkeep _ _ hd_ba (by omega) (by omega)
  replace hxx_ob := hkeep _ _ hxx_ob (by omega) (by omega)
  replace hd_ob := hkeep _ _ hd_ob (by omega) (by omega)
  replace hC_id := hC_id.keep (fun x o hx hl => hkeep x o hx (by omega) (by omega))
  have hsub_st : ∀ q ∈ news, q ∈ led_st := fun q hq => hkeep q.1 q.2 (hsub1 q hq) (by have h9 : @LT.lt Nat _ q.1 d' := tb_ltOf a0 q hq; omega) (by have h9 : @LT.lt Nat _ q.1 d' := tb_ltOf a0 q hq; omega)
  clear hsub1
  have hsub1 := hsub_st
  clear hsub_st hkeep
  k_steps
  show wpAny _ _ _ _ _ _
  (rename News _ _ _ _ => N9)
  with_unfolding_all show wpAny _ _ (call (Value.ref 212) [Value.ref _, Value.str _ _, Value.ref _, Value.int _ _] []) _ _ _
  k_dflt (refine' nbX (nb0 (lj := 0) (kj := 0)) ?B ?F ?X N9 ?T ?hk hmm1 hdm1 hdns hod lo_dns hval hls hdb hob ?kl hxx_bo hd_bo ?lj ?ne ?dd ?uu ?_; (case B => k_asm); (case F => k_asm); (case X => k_asm); (case T => k_asm); (case hk => first | exact rfl | assumption); (case kl => exact Nat.le_trans hlen (by decide)); (case lj => exact fun e => absurd rfl e); (case ne => omega); (case dd => ktr_room); (case uu => ktr_units); k_whole; intro c_bo ob_bo h' tk' led_bo F' N' hdb' hob' hC_bo hkeep; (try k_sweep))
  try clear N9
  clear hxx_bo hd_bo hdb hob
  (rename News _ _ _ _ => N9)
  have hdb := hdb'
  have hob := hob'
  clear hdb' hob'
  have hlen := Nat.le_trans (stored_length_le _ (Str.ofString "BOOL") (.ref c_bo)) (Nat.succ_le_succ hlen)
  replace hdns := hkeep _ _ hdns (by omega) (by omega)
  replace himp := hkeep _ _ himp (by omega) (by omega)
  replace hls := hkeep _ _ hls (by omega) (by omega)
  replace hmm1 := hkeep _ _ hmm1 (by omega) (by omega)
  replace hdm1 := hkeep _ _ hdm1 (by omega) (by omega)
  replace hxx_in := hkeep _ _ hxx_in (by omega) (by omega)
  replace hd_in := hkeep _ _ hd_in (by omega) (by omega)
  replace hxx_fl := hkeep _ _ hxx_fl (by omega) (by omega)
  replace hd_fl := hkeep _ _ hd_fl (by omega) (by omega)
  replace hxx_sf := hkeep _ _ hxx_sf (by omega) (by omega)
  replace hd_sf := hkeep _ _ hd_sf (by omega) (by omega)
  replace hxx_nu := hkeep _ _ hxx_nu (by omega) (by omega)
  replace hd_nu := hkeep _ _ hd_nu (by omega) (by omega)
  replace hxx_ba := hkeep _ _ hxx_ba (by omega) (by omega)
  replace hd_ba := hkeep _ _ hd_ba (by omega) (by omega)
  replace hxx_ob := hkeep _ _ hxx_ob (by omega) (by omega)
  replace hd_ob := hkeep _ _ hd_ob (by omega) (by omega)
  replace hC_id := hC_id.keep (fun x o hx hl => hkeep x o hx (by omega) (by omega))
  replace hC_st := hC_st.keep (fun x o hx hl => hkeep x o hx (by omega) (by omega))
  have hsub_bo : ∀ q ∈ news, q ∈ led_bo := fun q hq => hkeep q.1 q.2 (hsub1 q hq) (by have h9 : @LT.lt Nat _ q.1 d' := tb_ltOf a0 q hq; omega) (by have h9 : @LT.lt Nat _ q.1 d' := tb_ltOf a0 q hq; omega)
  clear hsub1
  have hsub1 := hsub_bo
  clear hsub_bo hkeep
  k_steps
  show wpAny _ _ _ _ _ _
  (rename News _ _ _ _ => N9)
  with_unfolding_all show wpAny _ _ (call (Value.ref 212) [Value.ref _, Value.str _ _, Value.ref _, Value.int _ _] []) _ _ _
  k_dflt (refine' nbX (nb0 (lj := 0) (kj := 0)) ?B ?F ?X N9 ?T ?hk hmm1 hdm1 hdns hod lo_dns hval hls hdb hob ?kl hxx_in hd_in ?lj ?ne ?dd ?uu ?_; (case B => k_asm); (case F => k_asm); (case X => k_asm); (case T => k_asm); (case hk => first | exact rfl | assumption); (case kl => exact Nat.le_trans hlen (by decide)); (case lj => exact fun e => absurd rfl e); (case ne => omega); (case dd => ktr_room); (case uu => ktr_units); k_whole; intro c_in ob_in h' tk' led_in F' N' hdb' hob' hC_in hkeep; (try k_sweep))
  try clear N9
  clear hxx_in hd_in hdb hob
  (rename News _ _ _ _ => N9)
  have hdb := hdb'
  have hob := hob'
  clear hdb' hob'
  have hlen := Nat.le_trans (stored_length_le _ (Str.ofString "INT") (.ref c_in)) (Nat.succ_le_succ hlen)
  replace hdns := hkeep _ _ hdns (by omega) (by omega)
  replace himp := hkeep _ _ himp (by omega) (by omega)
  replace hls := hkeep _ _ hls (by omega) (by omega)
  replace hmm1 := hkeep _ _ hmm1 (by omega) (by omega)
  replace hdm1 := hkeep _ _ hdm1 (by omega) (by omega)
  replace hxx_fl := hkeep _ _ hxx_fl (by omega) (by omega)
  replace hd_fl := hkeep _ _ hd_fl (by omega) (by omega)
  replace hxx_sf := hkeep _ _ hxx_sf (by omega) (by omega)
  replace hd_sf := hkeep _ _ hd_sf (by omega) (by omega)
  replace hxx_nu := hkeep _ _ hxx_nu (by omega) (by omega)
  replace hd_nu := hkeep _ _ hd_nu (by omega) (by omega)
  replace hxx_ba := hkeep _ _ hxx_ba (by omega) (by omega)
  replace hd_ba := hkeep _ _ hd_ba (by omega) (by omega)
  replace hxx_ob := hkeep _ _ hxx_ob (by omega) (by omega)
  replace hd_ob := hkeep _ _ hd_ob (by omega) (by omega)
  replace hC_id := hC_id.keep (fun x o hx hl => hkeep x o hx (by omega) (by omega))
  replace hC_st := hC_st.keep (fun x o hx hl => hkeep x o hx (by omega) (by omega))
  replace hC_bo := hC_bo.keep (fun x o hx hl => hkeep x o hx (by omega) (by omega))
  have hsub_in : ∀ q ∈ news, q ∈ led_in := fun q hq => hkeep q.1 q.2 (hsub1 q hq) (by have h9 : @LT.lt Nat _ q.1 d' := tb_ltOf a0 q hq; omega) (by have h9 : @LT.lt Nat _ q.1 d' := tb_ltOf a0 q hq; omega)
  clear hsub1
  have hsub1 := hsub_in
  clear hsub_in hkeep
  k_steps
  show wpAny _ _ _ _ _ _
  (rename News _ _ _ _ => N9)
  with_unfolding_all show wpAny _ _ (call (Value.ref 212) [Value.ref _, Value.str _ _, Value.ref _, Value.int _ _] []) _ _ _
  k_dflt (refine' nbX (nb0 (lj := 0) (kj := 0)) ?B ?F ?X N9 ?T ?hk hmm1 hdm1 hdns hod lo_dns hval hls hdb hob ?kl hxx_fl hd_fl ?lj ?ne ?dd ?uu ?_; (case B => k_asm); (case F => k_asm); (case X => k_asm); (case T => k_asm); (case hk => first | exact rfl | assumption); (case kl => exact Nat.le_trans hlen (by decide)); (case lj => exact fun e => absurd rfl e); (case ne => omega); (case dd => ktr_room); (case uu => ktr_units); k_whole; intro c_fl ob_fl h' tk' led_fl F' N' hdb' hob' hC_fl hkeep; (try k_sweep))
  try clear N9
  clear hxx_fl hd_fl hdb hob
  (rename News _ _ _ _ => N9)
  have hdb := hdb'
  have hob := hob'
  clear hdb' hob'
  have hlen := Nat.le_trans (stored_length_le _ (Str.ofString "FLOAT") (.ref c_fl)) (Nat.succ_le_succ hlen)
  replace hdns := hkeep _ _ hdns (by omega) (by omega)
  replace himp := hkeep _ _ himp (by omega) (by omega)
  replace hls := hkeep _ _ hls (by omega) (by omega)
  replace hmm1 := hkeep _ _ hmm1 (by omega) (by omega)
  replace hdm1 := hkeep _ _ hdm1 (by omega) (by omega)
  replace hxx_sf := hkeep _ _ hxx_sf (by omega) (by omega)
  replace hd_sf := hkeep _ _ hd_sf (by omega) (by omega)
  replace hxx_nu := hkeep _ _ hxx_nu (by omega) (by omega)
  replace hd_nu := hkeep _ _ hd_nu (by omega) (by omega)
  replace hxx_ba := hkeep _ _ hxx_ba (by omega) (by omega)
  replace hd_ba := hkeep _ _ hd_ba (by omega) (by omega)
  replace hxx_ob := hkeep _ _ hxx_ob (by omega) (by omega)
  replace hd_ob := hkeep _ _ hd_ob (by omega) (by omega)
  replace hC_id := hC_id.keep (fun x o hx hl => hkeep x o hx (by omega) (by omega))
  replace hC_st := hC_st.keep (fun x o hx hl => hkeep x o hx (by omega) (by omega))
  replace hC_bo := hC_bo.keep (fun x o hx hl => hkeep x o hx (by omega) (by omega))
  replace hC_in := hC_in.keep (fun x o hx hl => hkeep x o hx (by omega) (by omega))
  have hsub_fl : ∀ q ∈ news, q ∈ led_fl := fun q hq => hkeep q.1 q.2 (hsub1 q hq) (by have h9 : @LT.lt Nat _ q.1 d' := tb_ltOf a0 q hq; omega) (by have h9 : @LT.lt Nat _ q.1 d' := tb_ltOf a0 q hq; omega)
  clear hsub1
  have hsub1 := hsub_fl
  clear hsub_fl hkeep
  k_steps
  show wpAny _ _ _ _ _ _
  (rename News _ _ _ _ => N9)
  with_unfolding_all show wpAny _ _ (call (Value.ref 212) [Value.ref _, Value.str _ _, Value.ref _, Value.int _ _] []) _ _ _
  k_dflt (refine' nbX (nb0 (lj := 0) (kj := 0)) ?B ?F ?X N9 ?T ?hk hmm1 hdm1 hdns hod lo_dns hval hls hdb hob ?kl hxx_sf hd_sf ?lj ?ne ?dd ?uu ?_; (case B => k_asm); (case F => k_asm); (case X => k_asm); (case T => k_asm); (case hk => first | exact rfl | assumption); (case kl => exact Nat.le_trans hlen (by decide)); (case lj => exact fun e => absurd rfl e); (case ne => omega); (case dd => ktr_room); (case uu => ktr_units); k_whole; intro c_sf ob_sf h' tk' led_sf F' N' hdb' hob' hC_sf hkeep; (try k_sweep))
  try clear N9
  clear hxx_sf hd_sf hdb hob
  (rename News _ _ _ _ => N9)
  have hdb := hdb'
  have hob := hob'
  clear hdb' hob'
  have hlen := Nat.le_trans (stored_length_le _ (Str.ofString "STRICTFLOAT") (.ref c_sf)) (Nat.succ_le_succ hlen)
  replace hdns := hkeep _ _ hdns (by omega) (by omega)
  replace himp := hkeep _ _ himp (by omega) (by omega)
  replace hls := hkeep _ _ hls (by omega) (by omega)
  replace hmm1 := hkeep _ _ hmm1 (by omega) (by omega)
  replace hdm1 := hkeep _ _ hdm1 (by omega) (by omega)
  replace hxx_nu := hkeep _ _ hxx_nu (by omega) (by omega)
  replace hd_nu := hkeep _ _ hd_nu (by omega) (by omega)
  replace hxx_ba := hkeep _ _ hxx_ba (by omega) (by omega)
  replace hd_ba := hkeep _ _ hd_ba (by omega) (by omega)
  replace hxx_ob := hkeep _ _ hxx_ob (by omega) (by omega)
  replace hd_ob := hkeep _ _ hd_ob (by omega) (by omega)
  replace hC_id := hC_id.keep (fun x o hx hl => hkeep x o hx (by omega) (by omega))
  replace hC_st := hC_st.keep (fun x o hx hl => hkeep x o hx (by omega) (by omega))
  replace hC_bo := hC_bo.keep (fun x o hx hl => hkeep x o hx (by omega) (by omega))
  replace hC_in := hC_in.keep (fun x o hx hl => hkeep x o hx (by omega) (by omega))
  replace hC_fl := hC_fl.keep (fun x o hx hl => hkeep x o hx (by omega) (by omega))
  have hsub_sf : ∀ q ∈ news, q ∈ led_sf := fun q hq => hkeep q.1 q.2 (hsub1 q hq) (by have h9 : @LT.lt Nat _ q.1 d' := tb_ltOf a0 q hq; omega) (by have h9 : @LT.lt Nat _ q.1 d' := tb_ltOf a0 q hq; omega)
  clear hsub1
  have hsub1 := hsub_sf
  clear hsub_sf hkeep
  k_steps
  show wpAny _ _ _ _ _ _
  k_dflt (refine' newList_K ?k1 ?k2 ?_; (case k1 => k_asm); (case k2 => k_asm); k_whole; intro l_nu h' F' N' l1; (try k_sweep))
  have q_l_nu : @LT.lt Nat _ db l_nu := l1 (db, _) hdb
  clear l1
  (rename News _ _ _ _ => N9)
  have hP3 := absL (P := fun R => (l_nu, listOf #[.ref c_sf, .ref c_in] 0) ∈ R ∧ ∀ x o, (x, o) ∈ led_sf → (x, o) ∈ R) N9 ⟨by k_mem, fun x o hx => .tail _ hx⟩
  clear N9
  obtain ⟨led_nu0, N9, hl_nu, hkeep⟩ := hP3
  replace hdns := hkeep _ _ hdns
  replace himp := hkeep _ _ himp
  replace hls := hkeep _ _ hls
  replace hmm1 := hkeep _ _ hmm1
  replace hdm1 := hkeep _ _ hdm1
  replace hdb := hkeep _ _ hdb
  replace hxx_nu := hkeep _ _ hxx_nu
  replace hxx_ba := hkeep _ _ hxx_ba
  replace hxx_ob := hkeep _ _ hxx_ob
  replace hd_nu := hkeep _ _ hd_nu
  replace hd_ba := hkeep _ _ hd_ba
  replace hd_ob := hkeep _ _ hd_ob
  replace hC_id := hC_id.keep (fun x o hx _ => hkeep x o hx)
  replace hC_st := hC_st.keep (fun x o hx _ => hkeep x o hx)
  replace hC_bo := hC_bo.keep (fun x o hx _ => hkeep x o hx)
  replace hC_in := hC_in.keep (fun x o hx _ => hkeep x o hx)
  replace hC_fl := hC_fl.keep (fun x o hx _ => hkeep x o hx)
  replace hC_sf := hC_sf.keep (fun x o hx _ => hkeep x o hx)
  have hsub_nu0 : ∀ q ∈ news, q ∈ led_nu0 := fun q hq => hkeep q.1 q.2 (hsub1 q hq)
  clear hsub1 hkeep
  have hsub1 := hsub_nu0
  clear hsub_nu0
  k_steps
  show wpAny _ _ _ _ _ _
  (rename News _ _ _ _ => N9)
  with_unfolding_all show wpAny _ _ (call (Value.ref 212) [Value.ref _, Value.str _ _, Value.ref _, Value.int _ _] [(PySem.Str.ofString "inherits", Value.ref _)]) _ _ _
  k_dflt (refine' nbX (nb1 (lj := l_nu) (kj := 0) (vs := [.ref c_sf, .ref c_in]) (by simp) (by simp)) ?B ?F ?X N9 ?T ?hk hmm1 hdm1 hdns hod lo_dns hval hls hdb hob ?kl hxx_nu hd_nu ?lj ?ne ?dd ?uu ?_; (case B => k_asm); (case F => k_asm); (case X => k_asm); (case T => k_asm); (case hk => first | exact rfl | assumption); (case kl => exact Nat.le_trans hlen (by decide)); (case lj => exact fun _ => ⟨hl_nu, q_l_nu⟩); (case ne => omega); (case dd => ktr_room); (case uu => ktr_units); k_whole; intro c_nu ob_nu h' tk' led_nu F' N' hdb' hob' hC_nu hkeep; (try k_sweep))
  try clear N9
  clear hxx_nu hd_nu hdb hob
  (rename News _ _ _ _ => N9)
  have hdb := hdb'
  have hob := hob'
  clear hdb' hob'
  have hlen := Nat.le_trans (stored_length_le _ (Str.ofString "NUMBER") (.ref c_nu)) (Nat.succ_le_succ hlen)
  replace hdns := hkeep _ _ hdns (by omega) (by omega)
  replace himp := hkeep _ _ himp (by omega) (by omega)
  replace hls := hkeep _ _ hls (by omega) (by omega)
  replace hmm1 := hkeep _ _ hmm1 (by omega) (by omega)
  replace hdm1 := hkeep _ _ hdm1 (by omega) (by omega)
  replace hxx_ba := hkeep _ _ hxx_ba (by omega) (by omega)
  replace hd_ba := hkeep _ _ hd_ba (by omega) (by omega)
  replace hxx_ob := hkeep _ _ hxx_ob (by omega) (by omega)
  replace hd_ob := hkeep _ _ hd_ob (by omega) (by omega)
  replace hC_id := hC_id.keep (fun x o hx hl => hkeep x o hx (by omega) (by omega))
  replace hC_st := hC_st.keep (fun x o hx hl => hkeep x o hx (by omega) (by omega))
  replace hC_bo := hC_bo.keep (fun x o hx hl => hkeep x o hx (by omega) (by omega))
  replace hC_in := hC_in.keep (fun x o hx hl => hkeep x o hx (by omega) (by omega))
  replace hC_fl := hC_fl.keep (fun x o hx hl => hkeep x o hx (by omega) (by omega))
  replace hC_sf := hC_sf.keep (fun x o hx hl => hkeep x o hx (by omega) (by omega))
  have hsub_nu : ∀ q ∈ news, q ∈ led_nu := fun q hq => hkeep q.1 q.2 (hsub1 q hq) (by have h9 : @LT.lt Nat _ q.1 d' := tb_ltOf a0 q hq; omega) (by have h9 : @LT.lt Nat _ q.1 d' := tb_ltOf a0 q hq; omega)
  clear hsub1
  have hsub1 := hsub_nu
  clear hsub_nu hkeep
  k_steps
  show wpAny _ _ _ _ _ _
  k_dflt (refine' newList_K ?k1 ?k2 ?_; (case k1 => k_asm); (case k2 => k_asm); k_whole; intro l_ba h' F' N' l1; (try k_sweep))
  have q_l_ba : @LT.lt Nat _ db l_ba := l1 (db, _) hdb
  clear l1
  (rename News _ _ _ _ => N9)
  have hP3 := absL (P := fun R => (l_ba, listOf #[.ref c_nu, .ref c_fl, .ref c_bo, .ref c_id, .ref c_st] 0) ∈ R ∧ ∀ x o, (x, o) ∈ led_nu → (x, o) ∈ R) N9 ⟨by k_mem, fun x o hx => .tail _ hx⟩
  clear N9
  obtain ⟨led_ba0, N9, hl_ba, hkeep⟩ := hP3
  replace hdns := hkeep _ _ hdns
  replace himp := hkeep _ _ himp
  replace hls := hkeep _ _ hls
  replace hmm1 := hkeep _ _ hmm1
  replace hdm1 := hkeep _ _ hdm1
  replace hdb := hkeep _ _ hdb
  replace hxx_ba := hkeep _ _ hxx_ba
  replace hxx_ob := hkeep _ _ hxx_ob
  replace hd_ba := hkeep _ _ hd_ba
  replace hd_ob := hkeep _ _ hd_ob
  replace hC_id := hC_id.keep (fun x o hx _ => hkeep x o hx)
  replace hC_st := hC_st.keep (fun x o hx _ => hkeep x o hx)
  replace hC_bo := hC_bo.keep (fun x o hx _ => hkeep x o hx)
  replace hC_in := hC_in.keep (fun x o hx _ => hkeep x o hx)
  replace hC_fl := hC_fl.keep (fun x o hx _ => hkeep x o hx)
  replace hC_sf := hC_sf.keep (fun x o hx _ => hkeep x o hx)
  replace hC_nu := hC_nu.keep (fun x o hx _ => hkeep x o hx)
  have hsub_ba0 : ∀ q ∈ news, q ∈ led_ba0 := fun q hq => hkeep q.1 q.2 (hsub1 q hq)
  clear hsub1 hkeep
  have hsub1 := hsub_ba0
  clear hsub_ba0
  k_steps
  show wpAny _ _ _ _ _ _
  (rename News _ _ _ _ => N9)
  with_unfolding_all show wpAny _ _ (call (Value.ref 212) [Value.ref _, Value.str _ _, Value.ref _, Value.int _ _] [(PySem.Str.ofString "inherits", Value.ref _)]) _ _ _
  k_dflt (refine' nbX (nb1 (lj := l_ba) (kj := 0) (vs := [.ref c_nu, .ref c_fl, .ref c_bo, .ref c_id, .ref c_st]) (by simp) (by simp)) ?B ?F ?X N9 ?T ?hk hmm1 hdm1 hdns hod lo_dns hval hls hdb hob ?kl hxx_ba hd_ba ?lj ?ne ?dd ?uu ?_; (case B => k_asm); (case F => k_asm); (case X => k_asm); (case T => k_asm); (case hk => first | exact rfl | assumption); (case kl => exact Nat.le_trans hlen (by decide)); (case lj => exact fun _ => ⟨hl_ba, q_l_ba⟩); (case ne => omega); (case dd => ktr_room); (case uu => ktr_units); k_whole; intro c_ba ob_ba h' tk' led_ba F' N' hdb' hob' hC_ba hkeep; (try k_sweep))
  try clear N9
  clear hxx_ba hd_ba hdb hob
  (rename News _ _ _ _ => N9)
  have hdb := hdb'
  have hob := hob'
  clear hdb' hob'
  have hlen := Nat.le_trans (stored_length_le _ (Str.ofString "BASETYPE") (.ref c_ba)) (Nat.succ_le_succ hlen)
  replace hdns := hkeep _ _ hdns (by omega) (by omega)
  replace himp := hkeep _ _ himp (by omega) (by omega)
  replace hls := hkeep _ _ hls (by omega) (by omega)
  replace hmm1 := hkeep _ _ hmm1 (by omega) (by omega)
  replace hdm1 := hkeep _ _ hdm1 (by omega) (by omega)
  replace hxx_ob := hkeep _ _ hxx_ob (by omega) (by omega)
  replace hd_ob := hkeep _ _ hd_ob (by omega) (by omega)
  replace hC_id := hC_id.keep (fun x o hx hl => hkeep x o hx (by omega) (by omega))
  replace hC_st := hC_st.keep (fun x o hx hl => hkeep x o hx (by omega) (by omega))
  replace hC_bo := hC_bo.keep (fun x o hx hl => hkeep x o hx (by omega) (by omega))
  replace hC_in := hC_in.keep (fun x o hx hl => hkeep x o hx (by omega) (by omega))
  replace hC_fl := hC_fl.keep (fun x o hx hl => hkeep x o hx (by omega) (by omega))
  replace hC_sf := hC_sf.keep (fun x o hx hl => hkeep x o hx (by omega) (by omega))
  replace hC_nu := hC_nu.keep (fun x o hx hl => hkeep x o hx (by omega) (by omega))
  have hsub_ba : ∀ q ∈ news, q ∈ led_ba := fun q hq => hkeep q.1 q.2 (hsub1 q hq) (by have h9 : @LT.lt Nat _ q.1 d' := tb_ltOf a0 q hq; omega) (by have h9 : @LT.lt Nat _ q.1 d' := tb_ltOf a0 q hq; omega)
  clear hsub1
  have hsub1 := hsub_ba
  clear hsub_ba hkeep
  k_steps
  show wpAny _ _ _ _ _ _
  k_dflt (refine' newList_K ?k1 ?k2 ?_; (case k1 => k_asm); (case k2 => k_asm); k_whole; intro l_ob h' F' N' l1; (try k_sweep))
  have q_l_ob : @LT.lt Nat _ db l_ob := l1 (db, _) hdb
  clear l1
  (rename News _ _ _ _ => N9)
  have hP3 := absL (P := fun R => (l_ob, listOf #[.ref c_ba] 0) ∈ R ∧ ∀ x o, (x, o) ∈ led_ba → (x, o) ∈ R) N9 ⟨by k_mem, fun x o hx => .tail _ hx⟩
  clear N9
  obtain ⟨led_ob0, N9, hl_ob, hkeep⟩ := hP3
  replace hdns := hkeep _ _ hdns
  replace himp := hkeep _ _ himp
  replace hls := hkeep _ _ hls
  replace hmm1 := hkeep _ _ hmm1
  replace hdm1 := hkeep _ _ hdm1
  replace hdb := hkeep _ _ hdb
  replace hxx_ob := hkeep _ _ hxx_ob
  replace hd_ob := hkeep _ _ hd_ob
  replace hC_id := hC_id.keep (fun x o hx _ => hkeep x o hx)
  replace hC_st := hC_st.keep (fun x o hx _ => hkeep x o hx)
  replace hC_bo := hC_bo.keep (fun x o hx _ => hkeep x o hx)
  replace hC_in := hC_in.keep (fun x o hx _ => hkeep x o hx)
  replace hC_fl := hC_fl.keep (fun x o hx _ => hkeep x o hx)
  replace hC_sf := hC_sf.keep (fun x o hx _ => hkeep x o hx)
  replace hC_nu := hC_nu.keep (fun x o hx _ => hkeep x o hx)
  replace hC_ba := hC_ba.keep (fun x o hx _ => hkeep x o hx)
  have hsub_ob0 : ∀ q ∈ news, q ∈ led_ob0 := fun q hq => hkeep q.1 q.2 (hsub1 q hq)
  clear hsub1 hkeep
  have hsub1 := hsub_ob0
  clear hsub_ob0
  k_steps
  show wpAny _ _ _ _ _ _
  (rename News _ _ _ _ => N9)
  with_unfolding_all show wpAny _ _ (call (Value.ref 212) [Value.ref _, Value.str _ _, Value.ref _, Value.int _ _] [(PySem.Str.ofString "inherits", Value.ref _), (PySem.Str.ofString "rule_type", Value.str _ _)]) _ _ _
  k_dflt (refine' nbX (nb2 (lj := l_ob) (kj := 0) (vs := [.ref c_ba]) (by simp) (by simp)) ?B ?F ?X N9 ?T ?hk hmm1 hdm1 hdns hod lo_dns hval hls hdb hob ?kl hxx_ob hd_ob ?lj ?ne ?dd ?uu ?_; (case B => k_asm); (case F => k_asm); (case X => k_asm); (case T => k_asm); (case hk => first | exact rfl | assumption); (case kl => exact Nat.le_trans hlen (by decide)); (case lj => exact fun _ => ⟨hl_ob, q_l_ob⟩); (case ne => omega); (case dd => ktr_room); (case uu => ktr_units); k_whole; intro c_ob ob_ob h' tk' led_ob F' N' hdb' hob' hC_ob hkeep; (try k_sweep))
  try clear N9
  clear hxx_ob hd_ob hdb hob
  (rename News _ _ _ _ => N9)
  have hdb := hdb'
  have hob := hob'
  clear hdb' hob'
  have hlen := Nat.le_trans (stored_length_le _ (Str.ofString "OBJECT") (.ref c_ob)) (Nat.succ_le_succ hlen)
  replace hdns := hkeep _ _ hdns (by omega) (by omega)
  replace himp := hkeep _ _ himp (by omega) (by omega)
  replace hls := hkeep _ _ hls (by omega) (by omega)
  replace hmm1 := hkeep _ _ hmm1 (by omega) (by omega)
  replace hdm1 := hkeep _ _ hdm1 (by omega) (by omega)
  replace hC_id := hC_id.keep (fun x o hx hl => hkeep x o hx (by omega) (by omega))
  replace hC_st := hC_st.keep (fun x o hx hl => hkeep x o hx (by omega) (by omega))
  replace hC_bo := hC_bo.keep (fun x o hx hl => hkeep x o hx (by omega) (by omega))
  replace hC_in := hC_in.keep (fun x o hx hl => hkeep x o hx (by omega) (by omega))
  replace hC_fl := hC_fl.keep (fun x o hx hl => hkeep x o hx (by omega) (by omega))
  replace hC_sf := hC_sf.keep (fun x o hx hl => hkeep x o hx (by omega) (by omega))
  replace hC_nu := hC_nu.keep (fun x o hx hl => hkeep x o hx (by omega) (by omega))
  replace hC_ba := hC_ba.keep (fun x o hx hl => hkeep x o hx (by omega) (by omega))
  have hsub_ob : ∀ q ∈ news, q ∈ led_ob := fun q hq => hkeep q.1 q.2 (hsub1 q hq) (by have h9 : @LT.lt Nat _ q.1 d' := tb_ltOf a0 q hq; omega) (by have h9 : @LT.lt Nat _ q.1 d' := tb_ltOf a0 q hq; omega)
  clear hsub1
  have hsub1 := hsub_ob
  clear hsub_ob hkeep
  have up : ∀ x o, (x, o) ∈ led_ob → @Ne Nat x ls → @Ne Nat x dns → @Ne Nat x imp → (x, o) ∈ off ls (off dns (off imp led_ob)) := fun x o h h1 h2 h3 => off_mem (off_mem (off_mem h h3) h2) h1
  have hP4 := abs3 (P := fun R => (db, ob_ob) ∈ R ∧ (x', instObj 267 d') ∈ R ∧ (d', mmD w tm jm dns ls imp) ∈ R ∧ ClsB w db R c_id (Str.ofString "ID") [] ∧ ClsB w db R c_st (Str.ofString "STRING") [] ∧ ClsB w db R c_bo (Str.ofString "BOOL") [] ∧ ClsB w db R c_in (Str.ofString "INT") [] ∧ ClsB w db R c_fl (Str.ofString "FLOAT") [] ∧ ClsB w db R c_sf (Str.ofString "STRICTFLOAT") [] ∧ ClsB w db R c_nu (Str.ofString "NUMBER") [.ref c_sf, .ref c_in] ∧ ClsB w db R c_ba (Str.ofString "BASETYPE") [.ref c_nu, .ref c_fl, .ref c_bo, .ref c_id, .ref c_st] ∧ ClsB w db R c_ob (Str.ofString "OBJECT") [.ref c_ba] ∧ (∀ q ∈ R, q.1 ≠ ls) ∧ (∀ q ∈ R, q.1 ≠ dns) ∧ (∀ q ∈ R, q.1 ≠ imp) ∧ (∀ q ∈ news, q ∈ R)) (pull3 N9 hls hdns himp) ⟨up _ _ hdb (by omega) (by omega) (by omega), up _ _ hmm1 (by omega) (by omega) (by omega), up _ _ hdm1 (by omega) (by omega) (by omega), hC_id.keep (fun x o hx hl => up x o hx (by omega) (by omega) (by omega)), hC_st.keep (fun x o hx hl => up x o hx (by omega) (by omega) (by omega)), hC_bo.keep (fun x o hx hl => up x o hx (by omega) (by omega) (by omega)), hC_in.keep (fun x o hx hl => up x o hx (by omega) (by omega) (by omega)), hC_fl.keep (fun x o hx hl => up x o hx (by omega) (by omega) (by omega)), hC_sf.keep (fun x o hx hl => up x o hx (by omega) (by omega) (by omega)), hC_nu.keep (fun x o hx hl => up x o hx (by omega) (by omega) (by omega)), hC_ba.keep (fun x o hx hl => up x o hx (by omega) (by omega) (by omega)), hC_ob.keep (fun x o hx hl => up x o hx (by omega) (by omega) (by omega)), off_ne, fun q hq => off_ne q (off_sub q hq), fun q hq => off_ne q (off_sub _ (off_sub q hq)),
    fun q hq => up q.1 q.2 (hsub1 q hq) (by have h9 : @LT.lt Nat _ q.1 d' := tb_ltOf a0 q hq; omega) (by have h9 : @LT.lt Nat _ q.1 d' := tb_ltOf a0 q hq; omega) (by have h9 : @LT.lt Nat _ q.1 d' := tb_ltOf a0 q hq; omega)⟩
  clear N9 up hdb hmm1 hdm1 hC_id hC_st hC_bo hC_in hC_fl hC_sf hC_nu hC_ba hC_ob hsub1 hls hdns himp
  obtain ⟨R3, N9, hdb, hmm, hdm, hC_id, hC_st, hC_bo, hC_in, hC_fl, hC_sf, hC_nu, hC_ba, hC_ob, hR3_ls, hR3_dns, hR3_imp, hsub⟩ := hP4
  k_steps
  show wpAny _ _ _ _ _ _
  (rename News _ _ _ _ => N9)
  refine kda_notin (knd := nsKind prog w) N9 (by k_mem) hod lo_dns (ns_none _ _) true (by rw [valueAt_stored_ne _ (by simp)]; rfl) ?_
  k_steps
  show wpAny _ _ _ _ _ _
  k_dflt (refine' newDict_K ?k1 ?k2 (TopRead.nolimit (by k_asm)) ?_; (case k1 => k_asm); (case k2 => k_asm); k_whole; intro du h' o_du F' N' l1 lo_du hs_du fs' hi' fi'; (try k_sweep))
  have hRdu : ∀ q ∈ R3, @LT.lt Nat _ q.1 du := fun q hq => l1 q (.tail _ (.tail _ (.tail _ hq)))
  k_lt l1
  k_steps
  show wpAny _ _ _ _ _ _
  k_dflt (refine' newList_K ?k1 ?k2 ?_; (case k1 => k_asm); (case k2 => k_asm); k_whole; intro lb2 h' F' N' l1; (try k_sweep))
  have c10 : @LT.lt Nat _ du lb2 := l1 (du, _) (by k_mem)
  k_lt l1
  k_steps
  (rename Fr _ _ _ _ => F8)
  (rename News _ _ _ _ => N9)
  (rename Obj.IsDictOf (nsKind _ _) _ (stored (stored [] _ (.ref db)) none (.ref du)) => hod2)
  (rename Obj.IsDictOf (nsKind _ _) _ (stored (stored [] _ (.ref lb)) none (.ref lb2)) => hoi2)
  have N10 := newsC N9 (a := (du, o_du)) (by k_mem) (newsC N9 (a := (lb2, listOf #[.ref db] 0)) (by k_mem) (newsC N9 (a := (ls, listOf #[.none] _)) (by k_mem) (newsC N9 (a := (dns, _)) (by k_mem) (newsC N9 (a := (imp, _)) (by k_mem) (newsS N9 (rest := abv d' R3 ++ news) (by
    intro p hp
    have hp2 : p ∈ R3 := (List.mem_append.mp hp).elim (fun h => abv_sub p h) fun h => hsub p h
    repeat (first | exact hp2 | refine List.mem_cons_of_mem _ ?_)))))))
  refine hret x' du o_du (adr9 c_id c_st c_bo c_in c_fl c_sf c_nu c_ba c_ob) _ _ _ F8 N10 hs_du lo_du ?_ (fun p hp => hRdu p (hsub p hp)) ?_ (made_of (abv_mem hmm (by omega)) (abv_mem hdm (by omega)) lo_dns lo_imp lo_db hod2 hoi2 (abv_mem hdb (by omega)) hob (hC_id.keep (fun x o h hl => abv_mem h (by omega))) (hC_st.keep (fun x o h hl => abv_mem h (by omega))) (hC_bo.keep (fun x o h hl => abv_mem h (by omega))) (hC_in.keep (fun x o h hl => abv_mem h (by omega))) (hC_fl.keep (fun x o h hl => abv_mem h (by omega))) (hC_sf.keep (fun x o h hl => abv_mem h (by omega))) (hC_nu.keep (fun x o h hl => abv_mem h (by omega))) (hC_ba.keep (fun x o h hl => abv_mem h (by omega))) (hC_ob.keep (fun x o h hl => abv_mem h (by omega))))
  · intro q hq
    simp only [List.mem_cons] at hq
    rcases hq with rfl | rfl | rfl | rfl | hq
    · show @Ne Nat _ _; dsimp only; omega
    · show @Ne Nat _ _; dsimp only; omega
    · show @Ne Nat _ _; dsimp only; omega
    · show @Ne Nat _ _; dsimp only; omega
    · exact Nat.ne_of_lt (hRdu q (abv_sub q hq))
  · intro q hq p hp
    have h9 : @LT.lt Nat _ p.1 d' := tb_ltOf a0 p hp
    simp only [List.mem_cons] at hq
    rcases hq with rfl | rfl | rfl | rfl | hq
    · dsimp only; omega
    · dsimp only; omega
    · dsimp only; omega
    · dsimp only; omega
    · have := abv_ge q hq; omega
end Mine
end
section
open PySem PySem.W PyProof.Rows PySem.Calls PySem.Spec
set_option maxRecDepth 100000
set_option rowWalk.seconds 0
namespace Mine
theorem fresh_gi : True := by
  w_top off
  trivial
/-- `made[name]` of the base's names -/
def GiTells (prog : Program) (w : World) (p : Program) (loose : List Str) (mean : ExcName → Option Value) (mg mb : Str → Option Value) : Prop :=
  ∀ (dp un : Nat) (gd : Option (List Code)) (cn : Str) (cs : Scope) (a : Addr) (ccd : Value) (cl : List (Str × Addr)) (outer : List Env) (A₀ : Around) (base h₀ : Heap) (L : Addr) (m : Str → Option Value) (news : List (Addr × Obj)) (s : Shared)
    (R : Result → Shared → Prop) (mm du : Addr) (odu : Obj) (adr : Str → Addr) (ukv : List (Str × Value)) (n : Str) (tn : Tok),
    Below A₀ base outer h₀ → Fr h₀ L s.heap m → (topHead.heap_39 w.params).In h₀ → News h₀ L s.heap news → Top p loose mean mg mb h₀ → cs.kind = .function →
    Made prog w news mm du adr → (du, odu) ∈ news → odu.IsDictOf (PySem.strKind prog w) ukv → (du == sysModules) = false → n ∈ nine → valueAt ukv n = none → dp + 20 < recursionLimit → un + 200 < cLine →
    (∀ h' tk', Fr h₀ L h' m → News h₀ L h' news → R (.ok (.ret (.ref (adr n)))) { s with heap := h', toks := tk' }) →
    codeAny (model prog w) (ktrTop dp un gd cn cs L a ccd cl outer) (.call (.ref 242) ⟨[.ref mm, .str n tn], []⟩) R s
local macro_rules | `(tactic| k_mem) => `(tactic| first | exact List.mem_cons_self | (refine List.mem_cons_of_mem _ ?_; k_mem) | assumption)
local macro_rules | `(tactic| k_room) => `(tactic| ktr_room)
local macro_rules | `(tactic| walk_at "subscriptTail Attribute UnaryOp ref int") => `(tactic| (k_here; k_dflt (refine' item_last ?N ?m ?_; (case N => k_asm); (case m => k_mem); k_whole)))
local macro_rules | `(tactic| walk_at "subscriptTail Attribute Name UnaryOp ref int") => `(tactic| (k_here; k_dflt (refine' item_last ?N ?m ?_; (case N => k_asm); (case m => k_mem); k_whole)))
local macro_rules | `(tactic| walk_at "subscriptTail Attribute Name Subscript ref none") => `(tactic| (k_here; k_dflt (refine kda_itemA (knd := nsKind _ _) (by k_asm) (by k_mem) (by k_asm) (ns_none _ _) (by k_asm) ?_)))
theorem nodot {n : Str} (hn : n ∈ nine) : (!(Builtin.Str.occurrences n (Str.ofString ".") 0 n.length 1).isEmpty) = false := by
  simp only [nine, List.mem_cons, List.not_mem_nil, or_false] at hn
  rcases hn with rfl | rfl | rfl | rfl | rfl | rfl | rfl | rfl | rfl <;> decide +kernel
theorem in_dot_nine {prog : Program} {w : World} {A : Around} {E : Value → Shared → Prop} {s : Shared} {n : Str} {t u : Tok} {Q : Value → Shared → Prop} (hn : n ∈ nine) (h : Q (.bool false) s) : wpAny (model prog w) A (compareOp .In (.str (Str.ofString ".") u) (.str n t)) Q E s :=
  in_str (by rw [nodot hn]; exact h)
local macro_rules | `(tactic| walk_at "compareOp In str str") => `(tactic| (k_here; refine in_dot_nine (by assumption) ?_))
local macro_rules | `(tactic| walk_at "compareOp In str ref") => `(tactic| (k_here; k_dflt (first
  | refine kda_in (knd := PySem.strKind _ _) (by k_asm) (by k_mem) (by k_asm) (by k_asm) (strKind_is _ _ _ _) false (by rw [show valueAt _ _ = none from by assumption]; rfl) ?_
  | refine kda_in (knd := PySem.strKind _ _) (by k_asm) (by k_mem) (by k_asm) (by k_asm) (strKind_is _ _ _ _) true (by rw [show valueAt _ _ = some _ from by assumption]; rfl) ?_)))
local macro_rules | `(tactic| walk_at "pyIter ref") => `(tactic| refine halt ?_)
local macro_rules | `(tactic| walk_at "subscriptTail Name Name ref str") => `(tactic| (k_here; k_dflt (refine kda_item (knd := PySem.strKind _ _) (by k_asm) (by k_mem) (by k_asm) (strKind_is _ _ _ _) (by assumption) ?_)))
theorem forV {prog : Program} {w : World} {A : Around} {s : Shared} {env : Env} {h₀ : Heap} {m : Str → Option Value} {E : Value → Shared → Prop} {Q : Flow → Shared → Prop} {x : Str} {px pos : Pos} {iter : PySem.Expr} {body : List Stmt} (_F : Fr h₀ env.locals s.heap m) (hx : env.kindOf x = some .local)
    (hp : (env.scope.kind == .class || (env.scope.kind == .module && env.locals != env.globals)) = false)
    (h : wpAny (model prog w) A (eval iter env) (fun xv s₁ => wpAny (model prog w) A (pyIter xv) (fun it s₂ => LoopAtV prog w A h₀ env x body Q E it s₂) E s₁) E s)
    (hs : ∀ x, foldedSetIterable iter env x = pure x := by intro _; rfl)
    (hE : PassesOwn (model prog w) A env E := by passes_own) :
    wpAny (model prog w) A (exec (.For (.Name x px) iter body [] pos) env) Q E s := For_invV h₀ hx hp h hs hE
local macro_rules | `(tactic| walk_at "exec For Name Subscript cons nil") => `(tactic| (k_here; refine forV (by k_asm) (by with_unfolding_all rfl) (by with_unfolding_all rfl) ?_ (hE := by first | passes_own | with_unfolding_all passes_own)))
theorem lk_ns {m₁ m₂ : Str → Option Value} {x : Str} {v : Value} (h : ∀ y, y ≠ x → m₁ y = m₂ y) : (fun y => if y = x then some v else m₁ y) = fun y => if y = x then some v else m₂ y := by
  funext y
  by_cases e : y = x
  · simp [e]
  · simp [e, h y e]
set_option maxHeartbeats 0 in
theorem gi_tells {prog : Program} {w : World} {p : Program} {loose : List Str} {mean : ExcName → Option Value} {mg mb : Str → Option Value} : GiTells prog w p loose mean mg mb := by
  have hfill : (topHead.heap_39 w.params).In ({} : Heap) → PySem.Challenge.rw_ez0375_01 = PySem.Challenge.rw_ez0375_01 := by k_fill; intro _; rfl
  clear hfill
  intro dp un gd cn cs a ccd cl outer A₀ base h₀ L m news s R mm du odu adr ukv n tn B F X N T hk hM hdu hodu lo_du hn hno hdp hun hret
  obtain ⟨dns, ls, imp, db, lb, oi, ob, ikv, bkv, kl, ⟨dm, t, j, ons, nkv, k, hm1, hm2, hm3, hm4, hm5, hm6, hm7, hm8⟩, hi1, hi2, hi3, hi4, hb1, hb2, hb3, hb4, hC, lo_imp⟩ := hM
  have hval := hb4 n hn
  k_dflt (refine' code_def (binds := [(Str.ofString "self", .ref mm), (Str.ofString "name", .str n tn)]) ?k1 ?k2 ?k3 ?k4 ?k5 ?kA ?kF ?kK ?k6 ?k7 ?k8 ?k9 ?kB ?_ ?c2 ?c3 ?c4 ?c5; (case kA => exact rfl); (case kF => exact rfl); (case kK => first | exact rfl | assumption); (case k1 => k_asm); (case k2 => k_asm); (case k3 => k_asm); (case k4 => k_asm); (case k5 => k_asm); (case k6 => k_is); (case k7 => k_is); (case k8 => k_room); (case k9 => exact BindsTo.of_eq rfl); (case c5 => decide); (case kB => exact locs rfl); (case c2 => exact rfl); (case c3 => exact rfl); (case c4 => exact rfl); k_whole; intro g' L' h' FG' F' N' B' X' T'; (try dsimp only); (try k_lift B'); (try k_fold))
  k_steps
  show wpAny _ _ _ _ _ _
  (rename Fr _ _ _ _ => F9)
  (rename News _ _ _ _ => N9)
  refine loop_list (vs := [Value.ref db]) (nn := kl) (fun idx m₁ nx => idx = 0 ∧ nx = news ∧ (∀ y, y ≠ Str.ofString "namespace" → m₁ y = List.lookup y [(Str.ofString "self", Value.ref mm), (Str.ofString "name", Value.str n tn)].reverse)) rfl hi4 F9 N9 ⟨rfl, rfl, fun _ _ => rfl⟩ ?_ ?_
  · rintro I idx v₁ m₁ nx h₁ tk₁ oI hv₁ hl₁ hne₁ ⟨rfl, rfl, hm₁⟩ F₁ N₁
    rw [lk_ns hm₁] at F₁
    obtain rfl : Value.ref db = v₁ := Option.some.inj hv₁
    clear F9 N9 hm₁ hno
    k_steps
    dsimp only
    refine TPost.ret ?_
    dsimp only
    k_steps
    (rename Fr _ _ _ _ => F5)
    (rename News _ _ _ _ => N5)
    exact hret _ _ F5 fun p hp => N5 p (.tail _ hp)
  · rintro m₁ nx h₁ tk₁ hl₁ ⟨h0, _, _⟩ F₁ N₁
    cases h0
end Mine
end
section
open PySem PySem.W PyProof.Rows PySem.Calls PySem.Spec
set_option maxRecDepth 100000
namespace Mine
section
variable {prog : Program} {w : World} {A : Around} {E : Value → Shared → Prop} {s : Shared} {env : Env} {h₀ : Heap} {x : Str} {body : List Stmt} {Q : Flow → Shared → Prop}
theorem rearr3 {h₀ h : Heap} {L du : Addr} {odu : Obj} {c1 c2 c3 : Addr × Obj} {led : List (Addr × Obj)} (N : News h₀ L h ((du, odu) :: (led ++ [c1, c2, c3]))) : News h₀ L h (c1 :: c2 :: c3 :: (du, odu) :: led) := by
  intro p hp
  refine N p ?_
  simp only [List.mem_cons, List.mem_append, List.not_mem_nil, or_false] at hp ⊢
  rcases hp with h | h | h | h | h <;> simp [h]
/-- a dict of the written part -/
theorem dictOf_K {K : Frag} {h : Heap} {d : Addr} {es : Array DictEntry} {n : Nat} {kvs : List (Str × Value)} (X : K.In h) (hl : K.lookup d = some ⟨.type "dict", none, .dict es n, #[]⟩) (hk : KeysLit w.params es.toList) (hp : Pairs (PySem.strKind prog w) es.toList kvs) (hn : (kvs.map (·.1)).Nodup) :
    h.DictOf (PySem.strKind prog w) d kvs := by
  have hm := mapOf_K (prog := prog) (w := w) X hl hk
  obtain ⟨o, es', ep, ho, hx, hd, hko, _⟩ := hm
  have e := X _ _ hl
  rw [e] at ho
  cases ho
  injection hd with e1 e2
  subst e1
  exact ⟨_, _, _, e, hx, rfl, hko, hp, hn⟩
theorem loop_dictK {K : Type} [DecidableEq K] {knd : KeyKind prog w K} {d : Addr} {od : Obj} {kvs : List (K × Value)} {m₀ : Str → Option Value} {news : List (Addr × Obj)} (J : Nat → (Str → Option Value) → List (Addr × Obj) → Prop)
    (hh : A.handled = none) (hol₀ : h₀.get? d = some od) (hd : s.heap.DictOf knd d kvs) (lo : (d == sysModules) = false) (F : Fr h₀ env.locals s.heap m₀) (N : News h₀ env.locals s.heap news) (hL : env.locals ≠ d) (hj : J 0 m₀ news)
    (turn : ∀ I i k x' v m₁ nx h tk oI, kvs[i]? = some (k, x') → knd.is k v = true → (∀ p ∈ nx, p.1 ≠ I) → J i m₁ nx → Fr h₀ env.locals h (fun y => if y = x then some v else m₁ y) → News h₀ env.locals h ((I, oI) :: nx) →
      wpAny (model prog w) A (execs body env) (TPost h₀ env.locals (J (i + 1)) (I, oI) [] { s with heap := h, toks := tk } Q) E { s with heap := h, toks := tk })
    (done : ∀ m₁ nx h tk, J kvs.length m₁ nx → Fr h₀ env.locals h m₁ → News h₀ env.locals h nx → Q .next { s with heap := h, toks := tk }) :
    wpAny (model prog w) A (pyIter (.ref d)) (fun it s₂ => LoopAtV prog w A h₀ env x body Q E it s₂) E s := by
  obtain ⟨ep, hD⟩ := hd.dictAt
  have hol : s.heap.get? d = some od := F.keep _ _ hol₀
  have hne : d ≠ s.heap.objs.size := Nat.ne_of_lt (Heap.lt_size hol)
  refine wpAny_pyIter_dict lo hD ?_
  have W := Walks.dictKeys (prog := prog) (w := w) (knd := knd) hh s.heap.objs.size d hne kvs ep
  refine loop_gen (must := []) J W (.head _) ?_ ?_ (next_is_new F) (fun p hp => nomatch hp) (fun p hp e => ?_) (fun i h st => let ⟨o, ho, _⟩ := st.1; ⟨o, ho⟩)
    ⟨⟨_, Heap.get?_push_size _ rfl, rfl, rfl⟩, hD.push _⟩ (F.push _) (fun p hp => ⟨Heap.get?_push_of_some _ (N p hp).1, (N p hp).2⟩) hj ?_ ?_
  · intro b hb
    rcases List.mem_cons.mp hb with e | hb
    · exact .inl e
    · exact .inr (.inl ⟨od, by rw [List.mem_singleton.mp hb]; exact hol₀⟩)
  · intro hm
    rcases List.mem_cons.mp hm with e | hm
    · exact absurd F.ns.lt (e ▸ Nat.lt_irrefl _)
    · exact hL (List.mem_singleton.mp hm)
  · exact absurd (Heap.lt_size (N p hp).1) (e ▸ Nat.lt_irrefl _)
  · rintro i v m₁ nx h tk oI hi ⟨k, x', hk, hv⟩ hm hne hJ F₁ N₁
    exact turn _ i k x' v m₁ nx h tk oI hk hv hne hJ F₁ N₁
  · intro m₁ nx h tk hm hJ F₁ N₁
    exact done m₁ nx h tk hJ F₁ N₁
theorem kdK_item {K : Type} [DecidableEq K] {knd : KeyKind prog w K} {L d : Addr} {m : Str → Option Value} {kvs : List (K × Value)} {k : K} {key v : Value} {value slice : PySem.Expr} {Q : Value → Shared → Prop} (F : Fr h₀ L s.heap m) (hD : h₀.DictOf knd d kvs) (hkey : knd.is k key = true) (hl : valueAt kvs k = some v)
    (h : Q v { s with toks := s.toks + 1 }) (hs : subscripted slice false (.ref d) key = operate [.ref d, key] (getItem (.ref d) key) := by with_unfolding_all rfl) :
    wpAny (model prog w) A (subscriptTail value slice (.ref d) key) Q E s :=
  have hD' := hD.keep F.keep
  tail_any hD'.typeIs slot_dict_getitem.lookup (wpAny_getItem_of hkey hD'.mapOf hl h) hs
end
/-- the dict of the base's heirs, as it lies in the written part -/
def kvs8 : List (Str × Value) := [(Str.ofString "ID", .ref 274), (Str.ofString "STRING", .ref 275), (Str.ofString "BOOL", .ref 276), (Str.ofString "INT", .ref 277), (Str.ofString "FLOAT", .ref 278), (Str.ofString "STRICTFLOAT", .ref 279), (Str.ofString "NUMBER", .ref 280), (Str.ofString "BASETYPE", .ref 281)]
theorem stored_take {K : Type} [DecidableEq K] {kvs : List (K × Value)} (hn : (kvs.map (·.1)).Nodup) {i : Nat} {k : K} {v : Value} (hi : kvs[i]? = some (k, v)) : stored (kvs.take i) k v = kvs.take (i + 1) := by
  have hlt : i < kvs.length := by
    rcases Nat.lt_or_ge i kvs.length with h | h
    · exact h
    · rw [List.getElem?_eq_none h] at hi; cases hi
  have hno : valueAt (kvs.take i) k = none := by
    refine valueAt_none_of_not_mem fun hm => ?_
    have hd : (kvs.take i ++ kvs.drop i).map (·.1) = kvs.map (·.1) := by rw [List.take_append_drop]
    rw [← hd, List.map_append] at hn
    refine (List.nodup_append.mp hn).2.2 k hm k ?_ rfl
    refine List.mem_map.mpr ⟨(k, v), ?_, rfl⟩
    rw [List.getElem?_eq_getElem hlt] at hi
    rw [← Option.some.inj hi]
    exact List.mem_drop_iff_getElem.mpr ⟨0, by omega, by simp⟩
  rw [stored_absent hno, List.take_add_one, hi]
  rfl
theorem Made.mono {prog : Program} {w : World} {led led' : List (Addr × Obj)} {mm du : Addr} {adr : Str → Addr} (H : Made prog w led mm du adr) (hs : ∀ p ∈ led, p ∈ led') : Made prog w led' mm du adr := by
  obtain ⟨dns, ls, imp, db, lb, oi, ob, ikv, bkv, kl, h1, h2, h3, h4, h5, h6, h7, h8, h9, h10, h11⟩ := H
  exact ⟨dns, ls, imp, db, lb, oi, ob, ikv, bkv, kl, h1.mono hs, hs _ h2, h3, h4, hs _ h5, hs _ h6, h7, h8, h9, fun n hn => (h10 n hn).keep fun x o hx _ => hs _ hx, h11⟩
def kvsC (adr : Str → Addr) : List (Str × Value) := kvs8.map fun p => (p.1, .ref (adr p.1))
def J1 (prog : Program) (w : World) (bm : Str → Option Value) (c1 c2 c3 : Addr × Obj) (du : Addr) (odu : Obj) (dh dc : Addr) (led : List (Addr × Obj)) (adr : Str → Addr) (i : Nat) (m : Str → Option Value) (nx : List (Addr × Obj)) : Prop :=
  ∃ oh oc : Obj, nx = (dc, oc) :: (dh, oh) :: c1 :: c2 :: c3 :: (du, odu) :: led ∧ oh.IsDictOf (PySem.strKind prog w) (kvs8.take i) ∧ oc.IsDictOf (PySem.strKind prog w) ((kvsC adr).take i) ∧ ∀ y, y ≠ Str.ofString "name" → m y = bm y
theorem kvs8_nine {i : Nat} {k : Str} {v : Value} (h : kvs8[i]? = some (k, v)) : k ∈ nine := by
  have := List.mem_of_getElem? h
  simp only [kvs8, List.mem_cons, Prod.mk.injEq, List.not_mem_nil, or_false] at this
  rcases this with ⟨rfl, _⟩ | ⟨rfl, _⟩ | ⟨rfl, _⟩ | ⟨rfl, _⟩ | ⟨rfl, _⟩ | ⟨rfl, _⟩ | ⟨rfl, _⟩ | ⟨rfl, _⟩ <;> simp [nine]
theorem kvs8_nodup : (kvs8.map (·.1)).Nodup := by decide +kernel
theorem kvsC_nodup (adr : Str → Addr) : ((kvsC adr).map (·.1)).Nodup := by
  have e : (kvsC adr).map (·.1) = kvs8.map (·.1) := by unfold kvsC; rw [List.map_map]; rfl
  rw [e]; exact kvs8_nodup
theorem kvsC_get {adr : Str → Addr} {i : Nat} {k : Str} {v : Value} (h : kvs8[i]? = some (k, v)) : (kvsC adr)[i]? = some (k, .ref (adr k)) := by unfold kvsC; rw [List.getElem?_map, h]; rfl
end Mine
end
section
open PySem PySem.W PyProof.Rows PySem.Calls PySem.Spec
set_option maxRecDepth 100000
namespace Mine
/-- a graph and one more class -/
def Gr.grow (G : Gr) (u : Str) (ks : List Str) (c : Addr) (r : Nat) : Gr where
  names := G.names ++ [u]
  adr := fun n => if n = u then c else G.adr n
  kids := fun n => if n = u then ks else G.kids n
  rk := fun n => if n = u then r else G.rk n
theorem Gr.grow_ok {G : Gr} {u : Str} {ks : List Str} {c : Addr} {r : Nat} (ok : G.Ok) (hu : u ∉ G.names) (hks : ∀ k ∈ ks, k ∈ G.names) (hr : ∀ n ∈ G.names, G.rk n < r) (hr20 : r < 20) (hno : u ≠ Str.ofString "OBJECT") : (G.grow u ks c r).Ok where
  kid := by
    intro n hn k hk
    show k ∈ G.names ++ [u] ∧ (if k = u then r else G.rk k) < (if n = u then r else G.rk n)
    have hk' : k ∈ (if n = u then ks else G.kids n) := hk
    by_cases e : n = u
    · rw [if_pos e] at hk'
      have hkn := hks k hk'
      have : k ≠ u := fun e' => hu (e' ▸ hkn)
      rw [if_pos e, if_neg this]
      exact ⟨List.mem_append.mpr (.inl hkn), hr k hkn⟩
    · rw [if_neg e] at hk'
      have hn' : n ∈ G.names := (List.mem_append.mp hn).elim id fun h => absurd (List.mem_singleton.mp h) e
      have h1 := ok.kid n hn' k hk'
      have : k ≠ u := fun e' => hu (e' ▸ h1.1)
      rw [if_neg e, if_neg this]
      exact ⟨List.mem_append.mpr (.inl h1.1), h1.2⟩
  low := by
    intro n hn
    show (if n = u then r else G.rk n) < 20
    by_cases e : n = u
    · rw [if_pos e]; exact hr20
    · rw [if_neg e]
      exact ok.low n ((List.mem_append.mp hn).elim id fun h => absurd (List.mem_singleton.mp h) e)
  noObj := by
    intro n hn
    rcases List.mem_append.mp hn with h | h
    · exact ok.noObj n h
    · rw [List.mem_singleton.mp h]; exact hno
theorem Gr.grow_kids_old {G : Gr} {u n : Str} {ks : List Str} {c : Addr} {r : Nat} (h : n ≠ u) : (G.grow u ks c r).kids n = G.kids n := if_neg h
theorem Gr.grow_kids_new {G : Gr} {u : Str} {ks : List Str} {c : Addr} {r : Nat} : (G.grow u ks c r).kids u = ks := if_pos rfl
theorem Gr.grow_adr_old {G : Gr} {u n : Str} {ks : List Str} {c : Addr} {r : Nat} (h : n ≠ u) : (G.grow u ks c r).adr n = G.adr n := if_neg h
theorem Gr.grow_adr_new {G : Gr} {u : Str} {ks : List Str} {c : Addr} {r : Nat} : (G.grow u ks c r).adr u = c := if_pos rfl
theorem map_adr_old {G : Gr} {u : Str} {ks l : List Str} {c : Addr} {r : Nat} (hu : u ∉ l) : (l.map fun k => Value.ref ((G.grow u ks c r).adr k)) = l.map fun k => Value.ref (G.adr k) :=
  List.map_congr_left fun k hk => by
    have hne : k ≠ u := fun e => hu (e ▸ hk)
    rw [Gr.grow_adr_old hne]
theorem Gr.grow_cls {w : World} {G : Gr} {u : Str} {ks : List Str} {c : Addr} {r : Nat} {news news' : List (Addr × Obj)} (ok : G.Ok) (hu : u ∉ G.names) (hks : ∀ k ∈ ks, k ∈ G.names) (hC : ClsIn w news G) (hs : ∀ p ∈ news, p ∈ news')
    {dc li : Addr} {t : Nat → Tok} {j : Nat → Value} {a b : Tok} {k : Nat} (h1 : (c, instObj 52 dc) ∈ news') (h2 : (dc, clsD w t j u a b li) ∈ news') (h3 : (li, listOf (ks.map fun k => Value.ref (G.adr k)).toArray k) ∈ news') : ClsIn w news' (G.grow u ks c r) := by
  intro n hn
  by_cases e : n = u
  · subst e
    refine ⟨dc, li, t, j, a, b, k, ?_, h2, ?_⟩
    · rw [Gr.grow_adr_new]; exact h1
    · rw [Gr.grow_kids_new, map_adr_old fun h => hu (hks _ h)]; exact h3
  · have hn' : n ∈ G.names := (List.mem_append.mp hn).elim id fun h => absurd (List.mem_singleton.mp h) e
    obtain ⟨dc', li', t', j', a', b', k', g1, g2, g3⟩ := hC n hn'
    refine ⟨dc', li', t', j', a', b', k', ?_, hs _ g2, ?_⟩
    · rw [Gr.grow_adr_old e]; exact hs _ g1
    · rw [Gr.grow_kids_old e, map_adr_old fun h => hu (ok.kid n hn' _ h).1]; exact hs _ g3
def base8 : List Str := kvs8.map (·.1)
def rk0 (n : Str) : Nat := if n = Str.ofString "NUMBER" then 1 else if n = Str.ofString "BASETYPE" then 2 else 0
/-- the graph of the base -/
def G0 (adr : Str → Addr) : Gr := ⟨base8, adr, baseKids, rk0⟩
theorem base_kid : ∀ n ∈ base8, ∀ k ∈ baseKids n, k ∈ base8 ∧ rk0 k < rk0 n := by decide +kernel
theorem base_low : ∀ n ∈ base8, rk0 n < 3 := by decide +kernel
theorem base_noObj : ∀ n ∈ base8, n ≠ Str.ofString "OBJECT" := by decide +kernel
theorem base_nine : ∀ n ∈ base8, n ∈ nine := by decide +kernel
theorem base_kids_nodup : ∀ n ∈ base8, (baseKids n).Nodup := by decide +kernel
theorem base8_nodup : base8.Nodup := kvs8_nodup
theorem G0_ok (adr : Str → Addr) : (G0 adr).Ok := ⟨base_kid, fun n hn => Nat.lt_trans (base_low n hn) (by decide), base_noObj⟩
theorem G0_cls {prog : Program} {w : World} {led : List (Addr × Obj)} {mm du : Addr} {adr : Str → Addr} (H : Made prog w led mm du adr) : ClsIn w led (G0 adr) := by
  obtain ⟨dns, ls, imp, db, lb, oi, ob, ikv, bkv, kl, h1, h2, h3, h4, h5, h6, h7, h8, h9, h10, h11⟩ := H
  intro n hn
  obtain ⟨dc, li, t, j, u, v, k, g1, g2, g3, _⟩ := h10 n (base_nine n hn)
  exact ⟨dc, li, t, j, u, v, k, g1, g2, g3⟩
end Mine
end
section
open PySem PySem.W PyProof.Rows PySem.Calls PySem.Spec
set_option maxRecDepth 100000
namespace Mine
def lawNames : List Str := [Str.ofString "A", Str.ofString "B", Str.ofString "C", Str.ofString "D", Str.ofString "E", Str.ofString "F"]
theorem base_heirs {w : World} {h₀ : Heap} {acc : List (Addr × Obj)} (X : (topHead.heap_39 w.params).In h₀) : ∀ n ∈ base8, ∃ (l : Addr) (its : List Value), valueAt kvs8 n = some (.ref l) ∧ LCg.SrcAt h₀ l its.toArray acc ∧ StrsAre its (baseKids n) := by
  have hfill : (topHead.heap_39 w.params).In ({} : Heap) → PySem.Challenge.rw_ez0375_01 = PySem.Challenge.rw_ez0375_01 := by k_fill; intro _; rfl
  clear hfill
  intro n hn
  simp only [base8, kvs8, List.map_cons, List.map_nil, List.mem_cons, List.not_mem_nil, or_false] at hn
  rcases hn with rfl | rfl | rfl | rfl | rfl | rfl | rfl | rfl
  · exact ⟨274, [], by kernel_rfl, .inl (lstK X (by k_is)), .nil⟩
  · exact ⟨275, [], by kernel_rfl, .inl (lstK X (by k_is)), .nil⟩
  · exact ⟨276, [], by kernel_rfl, .inl (lstK X (by k_is)), .nil⟩
  · exact ⟨277, [], by kernel_rfl, .inl (lstK X (by k_is)), .nil⟩
  · exact ⟨278, [], by kernel_rfl, .inl (lstK X (by k_is)), .nil⟩
  · exact ⟨279, [], by kernel_rfl, .inl (lstK X (by k_is)), .nil⟩
  · refine ⟨280, [.str (Str.ofString "STRICTFLOAT") _, .str (Str.ofString "INT") _], by kernel_rfl, .inl (lstK X (by k_is)), ?_⟩
    have e : baseKids (Str.ofString "NUMBER") = [Str.ofString "STRICTFLOAT", Str.ofString "INT"] := by kernel_rfl
    rw [e]
    exact .cons _ _ (.cons _ _ .nil)
  · refine ⟨281, [.str (Str.ofString "NUMBER") _, .str (Str.ofString "FLOAT") _, .str (Str.ofString "BOOL") _, .str (Str.ofString "ID") _, .str (Str.ofString "STRING") _], by kernel_rfl, .inl (lstK X (by k_is)), ?_⟩
    have e : baseKids (Str.ofString "BASETYPE") = [Str.ofString "NUMBER", Str.ofString "FLOAT", Str.ofString "BOOL", Str.ofString "ID", Str.ofString "STRING"] := by kernel_rfl
    rw [e]
    exact .cons _ _ (.cons _ _ (.cons _ _ (.cons _ _ (.cons _ _ .nil))))
theorem ends3 {m : Str → Option Value} {x y z : Str} {a b c : Value} (h1 : m x = some a) (h2 : m y = some b) (h3 : m z = some c) : m = fun q => if q = x then some a else if q = y then some b else if q = z then some c else m q := by
  funext q
  by_cases e1 : q = x
  · rw [if_pos e1, e1, h1]
  · rw [if_neg e1]
    by_cases e2 : q = y
    · rw [if_pos e2, e2, h2]
    · rw [if_neg e2]
      by_cases e3 : q = z
      · rw [if_pos e3, e3, h3]
      · rw [if_neg e3]
theorem six {f : Int} (h0 : 0 ≤ f) (h1 : f < 6) : f = 0 ∨ f = 1 ∨ f = 2 ∨ f = 3 ∨ f = 4 ∨ f = 5 := by omega
theorem small6 {f : Int} (h0 : 0 ≤ f) (h1 : f < 6) : Builtin.Range.small 0 (1 + f) 1 = true := by
  rcases six h0 h1 with e | e | e | e | e | e <;> subst e <;> decide +kernel
theorem size6 {f : Int} (h0 : 0 ≤ f) (h1 : f < 6) : Builtin.Range.rangeSize 0 (1 + f) 1 = ((1 + f).toNat : Int) := by
  rcases six h0 h1 with e | e | e | e | e | e <;> subst e <;> decide +kernel
def J2 (prog : Program) (w : World) (h₀ : Heap) (c1 c3 : Addr × Obj) (a2 sc mm du dh dc : Addr) (adr : Str → Addr) (i : Nat) (m : Str → Option Value) (nx : List (Addr × Obj)) : Prop :=
  ∃ (G : Gr) (o2 odu oh oc : Obj) (hk uk : List (Str × Value)) (acc : List (Addr × Obj)), nx = (dc, oc) :: (dh, oh) :: c1 :: (a2, o2) :: c3 :: (du, odu) :: acc ∧ G.names = base8 ++ lawNames.take i ∧ G.Ok ∧ (∀ n ∈ G.names, G.rk n < 3 + i) ∧ (∀ n ∈ G.names, (G.kids n).Nodup) ∧
    ClsIn w acc G ∧ Made prog w acc mm du adr ∧ oh.IsDictOf (PySem.strKind prog w) hk ∧ (∀ n ∈ G.names, ∃ (l : Addr) (its : List Value), valueAt hk n = some (.ref l) ∧ LCg.SrcAt h₀ l its.toArray acc ∧ StrsAre its (G.kids n)) ∧ hk.length ≤ 8 + i ∧
    oc.IsDictOf (PySem.strKind prog w) (G.names.map fun n => (n, .ref (G.adr n))) ∧ odu.IsDictOf (PySem.strKind prog w) uk ∧ uk.length ≤ i ∧ (∀ n ∈ nine, valueAt uk n = none) ∧
    (∀ q ∈ acc, @Ne Nat q.1 dc ∧ @Ne Nat q.1 dh ∧ @Ne Nat q.1 c1.1 ∧ @Ne Nat q.1 a2 ∧ @Ne Nat q.1 c3.1 ∧ @Ne Nat q.1 du) ∧ (∃ v, o2.data = .cell v) ∧
    m (Str.ofString "made") = some (.ref mm) ∧ m (Str.ofString "heirs") = some (.ref dh) ∧ m (Str.ofString "script") = some (.ref sc)
theorem J2.start {prog : Program} {w : World} {h₀ : Heap} {c1 c3 : Addr × Obj} {a2 sc mm du dh dc : Addr} {adr : Str → Addr} {m : Str → Option Value} {o2 odu oh oc : Obj} {led : List (Addr × Obj)} (X : (topHead.heap_39 w.params).In h₀) (hM : Made prog w led mm du adr)
    (hoh : oh.IsDictOf (PySem.strKind prog w) (kvs8.take 8)) (hoc : oc.IsDictOf (PySem.strKind prog w) ((kvsC adr).take 8)) (hodu : odu.IsDictOf (PySem.strKind prog w) []) (hne : ∀ q ∈ led, @Ne Nat q.1 dc ∧ @Ne Nat q.1 dh ∧ @Ne Nat q.1 c1.1 ∧ @Ne Nat q.1 a2 ∧ @Ne Nat q.1 c3.1 ∧ @Ne Nat q.1 du)
    (h2 : ∃ v, o2.data = .cell v) (e1 : m (Str.ofString "made") = some (.ref mm)) (e2 : m (Str.ofString "heirs") = some (.ref dh)) (e3 : m (Str.ofString "script") = some (.ref sc)) :
    J2 prog w h₀ c1 c3 a2 sc mm du dh dc adr 0 m ((dc, oc) :: (dh, oh) :: c1 :: (a2, o2) :: c3 :: (du, odu) :: led) :=
  ⟨G0 adr, o2, odu, oh, oc, kvs8, [], led, rfl, rfl, G0_ok adr, base_low, base_kids_nodup, G0_cls hM, hM, hoh, base_heirs X, Nat.le_refl _, hoc, hodu, Nat.le_refl _, fun _ _ => rfl, hne, h2, e1, e2, e3⟩
end Mine
end
section
open PySem PySem.W PyProof.Rows PySem.Calls PySem.Spec PyProof.Rows.LCg PyProof.Rows.LCt
set_option maxRecDepth 100000
namespace Mine
section
variable {prog : Program} {w : World} {A : Around} {E : Value → Shared → Prop} {s : Shared} {h₀ : Heap} {L : Addr} {m : Str → Option Value} {env : Env} {news : List (Addr × Obj)}
theorem sublist_snoc {α : Type} {a : α} : ∀ {l₁ l₂ : List α}, l₁.Sublist l₂ → (l₁ ++ [a]).Sublist (l₂ ++ [a]) := fun h => h.append (List.Sublist.refl _)
/-- a comprehension with a test: what it picks is some of what it goes through, in its order -/
theorem rest_S {ct elt : Expr} {x : Str} {scope : Scope} {cl : List (Str × Addr)} {S : List (Addr × Obj) → Prop} {P : Nat → Value → Prop} {Fin : List Value → List (Addr × Obj) → Prop} {n : Nat} (R : Nat → Value → Prop) (hS : S news)
    (turn : ∀ i v I oI C oC D ys m₂ h tk (E' : Value → Shared → Prop), i < n → P i v → NsObj oC m₂ → m₂ x = some v → Fr h₀ L h m → News h₀ L h ((I, oI) :: (C, oC) :: (D, lst ys) :: news) → Off3 I C D news → ((@Ne Nat I C) ∧ (@Ne Nat I D) ∧ (@Ne Nat C D)) →
      wpAny (model prog w) A (isTrue ct (compEnvC scope cl C env) (eval ct (compEnvC scope cl C env))) (fun ok s' => if ok = true then
        wpAny (model prog w) A (eval elt (compEnvC scope cl C env)) (fun y s'' => R i y ∧ Same h₀ L m ((I, oI) :: (C, oC) :: (D, lst ys) :: news) { s with heap := h, toks := tk } s'') E' s'
        else Same h₀ L m ((I, oI) :: (C, oC) :: (D, lst ys) :: news) { s with heap := h, toks := tk } s') E' { s with heap := h, toks := tk })
    (fin : ∀ js ys, js.Sublist (List.range n) → All2 R js ys → Fin ys news) :
    CompRestT prog w A h₀ L m env ct elt x scope cl s S P Fin n 0 [] news := by
  have all : ∀ k i ys js, i + k = n → js.Sublist (List.range i) → All2 R js ys → CompRestT prog w A h₀ L m env ct elt x scope cl s S P Fin k i ys news := by
    intro k
    induction k with
    | zero => intro i ys js hi hj hys; exact .zero (fin js ys (by rw [← hi, Nat.add_zero]; exact hj) hys)
    | succ k ih =>
      intro i ys js hi hj hys
      refine CompRestT.succ fun v I oI C oC D m₂ h tk E' hP hC hx F N off ne => ?_
      refine wpAny_mono (turn i v I oI C oC D ys m₂ h tk E' (by omega) hP hC hx F N off ne) (fun ok s' hk => ?_) fun _ _ e => e
      cases ok with
      | true =>
        simp only [if_true] at hk ⊢
        refine wpAny_mono hk (fun y s'' hy => ?_) fun _ _ e => e
        obtain ⟨hR, h', tk', e, F', N'⟩ := hy
        refine ⟨h', tk', news, e, F', N', off, hS, ih (i + 1) (ys ++ [y]) (js ++ [i]) (by omega) ?_ (hys.snoc hR)⟩
        rw [List.range_succ]
        exact sublist_snoc hj
      | false =>
        simp only [Bool.false_eq_true, if_false] at hk ⊢
        obtain ⟨h', tk', e, F', N'⟩ := hk
        refine ⟨h', tk', news, e, F', N', off, hS, ih (i + 1) ys js (by omega) ?_ hys⟩
        rw [List.range_succ]
        exact List.sublist_append_of_sublist_left hj
  exact all n 0 [] [] (Nat.zero_add n) (List.nil_sublist _) .nil
theorem names_item {value slice : Expr} {i : Nat} {u : Tok} {y : Str} {Q : Value → Shared → Prop} (F : Fr h₀ L s.heap m) (X : (topHead.heap_39 w.params).In h₀) (hy : lawNames[i]? = some y) (h : ∀ t', Q (.str y t') s)
    (hs : subscripted slice false (.ref 272) (.int (i : Int) u) = operate [.ref 272, .int (i : Int) u] (getItem (.ref 272) (.int (i : Int) u)) := by with_unfolding_all rfl) (hg : ∀ r, letTemporaryGo value (.ref 272) r = pure () := by intro _; with_unfolding_all rfl) :
    wpAny (model prog w) A (subscriptTail value slice (.ref 272) (.int (i : Int) u)) Q E s := by
  have hfill : (topHead.heap_39 w.params).In ({} : Heap) → PySem.Challenge.rw_ez0375_01 = PySem.Challenge.rw_ez0375_01 := by k_fill; intro _; rfl
  clear hfill
  have hl : h₀.IsList 272 ([.str (Str.ofString "A") _, .str (Str.ofString "B") _, .str (Str.ofString "C") _, .str (Str.ofString "D") _, .str (Str.ofString "E") _, .str (Str.ofString "F") _] : List Value).toArray := lstK X (by k_is)
  have hlt : i < lawNames.length := by
    rcases Nat.lt_or_ge i lawNames.length with h | h
    · exact h
    · rw [List.getElem?_eq_none h] at hy; cases hy
  have e : lawNames.getD (i : Int).toNat Str.empty = y := by
    show lawNames.getD i Str.empty = y
    rw [List.getD_eq_getElem?_getD, hy]; rfl
  have hl6 : lawNames.length = 6 := rfl
  exact item_strsA (k := (i : Int)) (hl.at (F.keep 272)) (.cons _ _ (.cons _ _ (.cons _ _ (.cons _ _ (.cons _ _ (.cons _ _ .nil)))))) (by omega) (by show (i : Int) < (lawNames.length : Int); omega) (by omega) (fun t' => e ▸ h t') hs hg
/-- a list of INT alone, or of nothing -/
def IntOrNone (h₀ : Heap) (L : Addr) (m : Str → Option Value) (news : List (Addr × Obj)) (s : Shared) (v : Value) (s' : Shared) : Prop :=
  ∃ l k vs ts h' tk', v = .ref l ∧ s' = { s with heap := h', toks := tk' } ∧ Fr h₀ L h' m ∧ News h₀ L h' ((l, listOf vs.toArray k) :: news) ∧ StrsAre vs ts ∧ (ts = [] ∨ ts = [Str.ofString "INT"])
theorem ifexp_join {e : Expr} {Q : Value → Shared → Prop} (_F : Fr h₀ L s.heap m) (_N : News h₀ L s.heap news) (h1 : wpAny (model prog w) A (eval e env) (IntOrNone h₀ L m news s) E s)
    (h2 : ∀ l k vs ts h' tk', Fr h₀ L h' m → News h₀ L h' ((l, listOf vs.toArray k) :: news) → StrsAre vs ts → (ts = [] ∨ ts = [Str.ofString "INT"]) → Q (.ref l) { s with heap := h', toks := tk' }) : wpAny (model prog w) A (eval e env) Q E s :=
  wpAny_mono h1 (fun v s' ⟨l, k, vs, ts, h', tk', e1, e2, F, N, a, b⟩ => by subst e1; subst e2; exact h2 l k vs ts h' tk' F N a b) fun _ _ e => e
theorem pow_item {value slice : Expr} {l : Addr} {nn : Nat} {i : Nat} {u t1 t2 t3 t4 t5 t6 : Tok} {Q : Value → Shared → Prop} (N : News h₀ L s.heap news) (hm : (l, listOf #[.int 1 t1, .int 2 t2, .int 4 t3, .int 8 t4, .int 16 t5, .int 32 t6] nn) ∈ news) (hi : i < 6) (h : ∀ z t', z ≠ 0 → Q (.int z t') s)
    (hs : subscripted slice false (.ref l) (.int (i : Int) u) = operate [.ref l, .int (i : Int) u] (getItem (.ref l) (.int (i : Int) u)) := by with_unfolding_all rfl) (hg : ∀ r, letTemporaryGo value (.ref l) r = pure () := by intro _; with_unfolding_all rfl) :
    wpAny (model prog w) A (subscriptTail value slice (.ref l) (.int (i : Int) u)) Q E s := by
  have hl : s.heap.IsList l #[.int 1 t1, .int 2 t2, .int 4 t3, .int 8 t4, .int 16 t5, .int 32 t6] := N.isList hm
  have hc : i = 0 ∨ i = 1 ∨ i = 2 ∨ i = 3 ∨ i = 4 ∨ i = 5 := by omega
  rcases hc with rfl | rfl | rfl | rfl | rfl | rfl
  · exact item_list hl (by decide) (by decide) (by rfl) (h 1 t1 (by decide)) hs hg
  · exact item_list hl (by decide) (by decide) (by rfl) (h 2 t2 (by decide)) hs hg
  · exact item_list hl (by decide) (by decide) (by rfl) (h 4 t3 (by decide)) hs hg
  · exact item_list hl (by decide) (by decide) (by rfl) (h 8 t4 (by decide)) hs hg
  · exact item_list hl (by decide) (by decide) (by rfl) (h 16 t5 (by decide)) hs hg
  · exact item_list hl (by decide) (by decide) (by rfl) (h 32 t6 (by decide)) hs hg
end
section
theorem off1_mem {D : Addr} : ∀ {l : List (Addr × Obj)}, LCg.Off1 D l → ∀ q ∈ l, @Ne Nat q.1 D
  | [], _, _, h => nomatch h
  | p :: r, x, q, h => by
    rcases List.mem_cons.mp h with rfl | h
    · exact x.1
    · exact off1_mem x.2 q h
theorem eight {p0 p1 p2 p3 p4 p5 p6 : Addr × Obj} {acc : List (Addr × Obj)} {D : Addr} (h : ∀ p ∈ p0 :: p1 :: p2 :: p3 :: p4 :: p5 :: p6 :: acc, @Ne Nat p.1 D) : @Ne Nat p0.1 D ∧ @Ne Nat p1.1 D ∧ @Ne Nat p2.1 D ∧ @Ne Nat p3.1 D ∧ @Ne Nat p4.1 D ∧ @Ne Nat p5.1 D ∧ @Ne Nat p6.1 D ∧ ∀ q ∈ acc, q.1 ≠ D :=
  ⟨h _ (.head _), h _ (.tail _ (.head _)), h _ (.tail _ (.tail _ (.head _))), h _ (.tail _ (.tail _ (.tail _ (.head _)))), h _ (.tail _ (.tail _ (.tail _ (.tail _ (.head _))))), h _ (.tail _ (.tail _ (.tail _ (.tail _ (.tail _ (.head _)))))),
    h _ (.tail _ (.tail _ (.tail _ (.tail _ (.tail _ (.tail _ (.head _))))))), fun q hq => h q (.tail _ (.tail _ (.tail _ (.tail _ (.tail _ (.tail _ (.tail _ hq)))))))⟩
theorem all8 {p0 p1 p2 p3 p4 p5 p6 p7 : Addr × Obj} {acc : List (Addr × Obj)} {D : Addr} (h0 : @Ne Nat p0.1 D) (h1 : @Ne Nat p1.1 D) (h2 : @Ne Nat p2.1 D) (h3 : @Ne Nat p3.1 D) (h4 : @Ne Nat p4.1 D) (h5 : @Ne Nat p5.1 D) (h6 : @Ne Nat p6.1 D) (h7 : @Ne Nat p7.1 D) (h : ∀ q ∈ acc, q.1 ≠ D) : ∀ q ∈ p0 :: p1 :: p2 :: p3 :: p4 :: p5 :: p6 :: p7 :: acc, q.1 ≠ D := by
  intro q hq
  simp only [List.mem_cons] at hq
  rcases hq with rfl | rfl | rfl | rfl | rfl | rfl | rfl | rfl | hq
  · exact h0
  · exact h1
  · exact h2
  · exact h3
  · exact h4
  · exact h5
  · exact h6
  · exact h7
  · exact h q hq
theorem range_map {α β : Type} (ks : List α) (d : α) (f : α → β) : ∀ n, n ≤ ks.length → (List.range n).map (fun j => f (ks.getD j d)) = (ks.take n).map f := by
  intro n
  induction n with
  | zero => intro _; simp
  | succ n ih =>
    intro hn
    have hlt : n < ks.length := hn
    rw [List.range_succ, List.map_append, ih (Nat.le_of_succ_le hn), List.take_add_one, List.map_append]
    congr 1
    simp [hlt, List.getD_eq_getElem?_getD]
theorem kids_vals {ks : List Str} {f : Str → Value} {n : Nat} {ys : List Value} (hn : n = ks.length) (h : All2 (fun j y => y = f (ks.getD j Str.empty)) (List.range n) ys) : ys = ks.map f := by
  rw [h.eqs (f := fun j => f (ks.getD j Str.empty)), range_map ks Str.empty f n (Nat.le_of_eq hn), hn, List.take_length]
theorem classes_at {l : List Str} {f : Str → Addr} {n : Str} (hn : n ∈ l) : valueAt (l.map fun n => (n, Value.ref (f n))) n = some (.ref (f n)) := by
  induction l with
  | nil => cases hn
  | cons a r ih =>
    unfold valueAt at ih ⊢
    by_cases e : a = n
    · subst e; simp
    · have hr : n ∈ r := (List.mem_cons.mp hn).elim (fun e' => absurd e'.symm e) id
      simpa [List.find?_cons, e] using ih hr
theorem front8 {h₀ h : Heap} {L : Addr} {p0 p1 p2 p3 p4 p5 p6 p7 d : Addr × Obj} {acc : List (Addr × Obj)} (N : News h₀ L h (p0 :: p1 :: p2 :: p3 :: p4 :: p5 :: p6 :: p7 :: d :: acc)) : News h₀ L h (d :: p0 :: p1 :: p2 :: p3 :: p4 :: p5 :: p6 :: p7 :: acc) := by
  intro p hp
  refine N p ?_
  simp only [List.mem_cons] at hp ⊢
  rcases hp with h | h | h | h | h | h | h | h | h | h <;> simp [h]
/-- the ledger after `_new_class`, in loop 2's order again -/
theorem back8 {h₀ h : Heap} {L : Addr} {c k l d D6 D5 I dc dh c1 a2 c3 : Addr × Obj} {acc : List (Addr × Obj)} (N : News h₀ L h (c :: k :: l :: d :: D6 :: D5 :: I :: dc :: dh :: c1 :: a2 :: c3 :: acc)) : News h₀ L h (I :: dc :: dh :: c1 :: a2 :: c3 :: d :: c :: k :: l :: D5 :: acc) := by
  intro p hp
  refine N p ?_
  simp only [List.mem_cons] at hp ⊢
  rcases hp with h | h | h | h | h | h | h | h | h | h | h | h <;> simp [h]
theorem mem_of_take {α : Type} {l : List α} {i : Nat} {x : α} (h : x ∈ l.take i) : ∃ j, j < i ∧ l[j]? = some x := by
  obtain ⟨j, hj, e⟩ := List.getElem_of_mem h
  rw [List.length_take] at hj
  refine ⟨j, by omega, ?_⟩
  rw [List.getElem_take] at e
  rw [List.getElem?_eq_getElem (by omega), e]
theorem law_lt {i : Nat} {u : Str} (hu : lawNames[i]? = some u) : i < 6 := by
  rcases Nat.lt_or_ge i lawNames.length with h | h
  · exact h
  · rw [List.getElem?_eq_none h] at hu; cases hu
theorem law_inj : ∀ i, i < 6 → ∀ j, j < 6 → lawNames[i]? = lawNames[j]? → i = j := by decide +kernel
theorem law_nodup : lawNames.Nodup := by decide +kernel
theorem law_base : ∀ u ∈ lawNames, u ∉ base8 := by decide +kernel
theorem law_nine : ∀ u ∈ lawNames, u ∉ nine := by decide +kernel
theorem law_obj : ∀ u ∈ lawNames, u ≠ Str.ofString "OBJECT" := by decide +kernel
theorem law_int : Str.ofString "INT" ∉ lawNames := by decide +kernel
theorem int_base : Str.ofString "INT" ∈ base8 := by decide +kernel
theorem law_take {i : Nat} {u : Str} (hu : lawNames[i]? = some u) : u ∉ lawNames.take i := by
  intro h
  obtain ⟨j, hj, e⟩ := mem_of_take h
  have hi := law_lt hu
  have := law_inj i hi j (Nat.lt_trans hj hi) (hu.trans e.symm)
  omega
theorem law_new {i : Nat} {u : Str} (hu : lawNames[i]? = some u) : u ∉ base8 ++ lawNames.take i := fun h =>
  (List.mem_append.mp h).elim (law_base u (List.mem_of_getElem? hu)) (law_take hu)
/-- the names that a turn picks -/
def picked (js : List Nat) : List Str := js.map fun j => lawNames.getD j Str.empty
theorem picked_get {i j : Nat} {js : List Nat} (hi : i ≤ 6) (hj : js.Sublist (List.range i)) (h : j ∈ js) : ∃ y, lawNames[j]? = some y ∧ lawNames.getD j Str.empty = y ∧ j < i := by
  have h1 := List.mem_range.mp (hj.subset h)
  have h2 : j < lawNames.length := Nat.lt_of_lt_of_le h1 hi
  exact ⟨lawNames[j], List.getElem?_eq_getElem h2, by rw [List.getD_eq_getElem?_getD, List.getElem?_eq_getElem h2]; rfl, h1⟩
theorem picked_take {i : Nat} {js : List Nat} (hi : i ≤ 6) (hj : js.Sublist (List.range i)) : ∀ x ∈ picked js, x ∈ lawNames.take i := by
  intro x hx
  obtain ⟨j, hjm, rfl⟩ := List.mem_map.mp hx
  obtain ⟨y, h1, h2, h3⟩ := picked_get hi hj hjm
  rw [h2]
  exact List.mem_of_getElem? (i := j) (by rw [List.getElem?_take_of_lt h3]; exact h1)
theorem picked_nodup {i : Nat} {js : List Nat} (hi : i ≤ 6) (hj : js.Sublist (List.range i)) : (picked js).Nodup := by
  have hd : js.Nodup := hj.nodup List.nodup_range
  refine List.pairwise_map.mpr (List.Pairwise.imp_of_mem (fun {a b} ha hb hne e => ?_) hd)
  obtain ⟨y, h1, h2, _⟩ := picked_get hi hj ha
  obtain ⟨z, g1, g2, _⟩ := picked_get hi hj hb
  rw [h2, g2] at e
  subst e
  exact hne (law_inj a (law_lt h1) b (law_lt g1) (h1.trans g1.symm))
/-- the heirs of the turn: what was picked, and INT or nothing -/
theorem kids_in {i : Nat} {js : List Nat} {ts : List Str} (hi : i ≤ 6) (hj : js.Sublist (List.range i)) (ht : ts = [] ∨ ts = [Str.ofString "INT"]) : ∀ k ∈ picked js ++ ts, k ∈ base8 ++ lawNames.take i := by
  intro k hk
  rcases List.mem_append.mp hk with h | h
  · exact List.mem_append.mpr (.inr (picked_take hi hj k h))
  · rcases ht with rfl | rfl
    · cases h
    · rw [List.mem_singleton.mp h]; exact List.mem_append.mpr (.inl int_base)
theorem kids_nodup {i : Nat} {js : List Nat} {ts : List Str} (hi : i ≤ 6) (hj : js.Sublist (List.range i)) (ht : ts = [] ∨ ts = [Str.ofString "INT"]) : (picked js ++ ts).Nodup := by
  rcases ht with rfl | rfl
  · rw [List.append_nil]; exact picked_nodup hi hj
  · refine List.nodup_append.mpr ⟨picked_nodup hi hj, by simp, fun a ha b hb e => ?_⟩
    rw [List.mem_singleton.mp hb] at e
    exact law_int (List.mem_of_mem_take (e ▸ picked_take hi hj a ha))
theorem kids_len {i : Nat} {js : List Nat} {ts : List Str} (hi : i ≤ 6) (hj : js.Sublist (List.range i)) (ht : ts = [] ∨ ts = [Str.ofString "INT"]) : (picked js ++ ts).length ≤ 7 := by
  have h1 : js.length ≤ i := by have := hj.length_le; rwa [List.length_range] at this
  have h2 : ts.length ≤ 1 := by rcases ht with rfl | rfl <;> simp
  rw [List.length_append]
  have h3 : (picked js).length = js.length := List.length_map _
  omega
theorem stored_len {K : Type} [DecidableEq K] (kvs : List (K × Value)) (k : K) (v : Value) : (stored kvs k v).length ≤ kvs.length + 1 := by
  unfold stored
  split
  · rw [List.length_map]; exact Nat.le_succ _
  · rw [List.length_append]; exact Nat.le_refl _
theorem stored_len2 {K : Type} [DecidableEq K] (kvs : List (K × Value)) (k : K) (v v' : Value) : (stored (stored kvs k v) k v').length ≤ kvs.length + 1 := by
  have h : (stored kvs k v).any (fun e => decide (e.1 = k)) = true := by
    rw [← valueAt_isSome_eq_any, valueAt_stored]; rfl
  have e : stored (stored kvs k v) k v' = (stored kvs k v).map fun e => if e.1 = k then (e.1, v') else e := by
    rw [stored, if_pos h]
  rw [e, List.length_map]
  exact stored_len kvs k v
def Off6 (x dc dh c1 a2 c3 du : Addr) : Prop := @Ne Nat x dc ∧ @Ne Nat x dh ∧ @Ne Nat x c1 ∧ @Ne Nat x a2 ∧ @Ne Nat x c3 ∧ @Ne Nat x du
theorem J2.step {prog : Program} {w : World} {h₀ : Heap} {c1 c3 : Addr × Obj} {a2 sc mm du dh dc : Addr} {adr : Str → Addr} {m' : Str → Option Value} {G : Gr} {hk uk : List (Str × Value)} {acc : List (Addr × Obj)} {i : Nat}
    (hGn : G.names = base8 ++ lawNames.take i) (hGok : G.Ok) (hGr : ∀ n ∈ G.names, G.rk n < 3 + i) (hGd : ∀ n ∈ G.names, (G.kids n).Nodup) (hGc : ClsIn w acc G) (hGm : Made prog w acc mm du adr)
    (hheirs : ∀ n ∈ G.names, ∃ (l : Addr) (its : List Value), valueAt hk n = some (.ref l) ∧ LCg.SrcAt h₀ l its.toArray acc ∧ StrsAre its (G.kids n)) (hhl : hk.length ≤ 8 + i) (hul : uk.length ≤ i) (hun : ∀ n ∈ nine, valueAt uk n = none)
    (hoffA : ∀ q ∈ acc, @Ne Nat q.1 dc ∧ @Ne Nat q.1 dh ∧ @Ne Nat q.1 c1.1 ∧ @Ne Nat q.1 a2 ∧ @Ne Nat q.1 c3.1 ∧ @Ne Nat q.1 du)
    {u : Str} {ks : List Str} {c dcl li l1 l2 : Addr} {t : Nat → Tok} {j : Nat → Value} {a b : Tok} {kl lk : Nat} {ys : List Value} {o2 odu oh oc : Obj} (hu : lawNames[i]? = some u) (hks : ∀ k ∈ ks, k ∈ base8 ++ lawNames.take i) (hkd : ks.Nodup) (hys : StrsAre ys ks)
    (hoh : oh.IsDictOf (PySem.strKind prog w) (stored (stored hk u (.ref l1)) u (.ref l2))) (hoc : oc.IsDictOf (PySem.strKind prog w) (stored (G.names.map fun n => (n, .ref (G.adr n))) u (.ref c))) (hodu : odu.IsDictOf (PySem.strKind prog w) (stored uk u (.ref c)))
    (f1 : Off6 c dc dh c1.1 a2 c3.1 du) (f2 : Off6 dcl dc dh c1.1 a2 c3.1 du) (f3 : Off6 li dc dh c1.1 a2 c3.1 du) (f4 : Off6 l2 dc dh c1.1 a2 c3.1 du)
    (h2 : ∃ v, o2.data = .cell v) (e1 : m' (Str.ofString "made") = some (.ref mm)) (e2 : m' (Str.ofString "heirs") = some (.ref dh)) (e3 : m' (Str.ofString "script") = some (.ref sc)) :
    J2 prog w h₀ c1 c3 a2 sc mm du dh dc adr (i + 1) m' ((dc, oc) :: (dh, oh) :: c1 :: (a2, o2) :: c3 :: (du, odu) :: (c, instObj 52 dcl) :: (dcl, clsD w t j u a b li) :: (li, listOf (ks.map fun k => Value.ref (G.adr k)).toArray kl) :: (l2, listOf ys.toArray lk) :: acc) := by
  have hi := law_lt hu
  have hun' : u ∉ G.names := hGn ▸ law_new hu
  have hks' : ∀ k ∈ ks, k ∈ G.names := hGn ▸ hks
  have hum := List.mem_of_getElem? hu
  have hsub : ∀ p ∈ acc, p ∈ ((c, instObj 52 dcl) :: (dcl, clsD w t j u a b li) :: (li, listOf (ks.map fun k => Value.ref (G.adr k)).toArray kl) :: (l2, listOf ys.toArray lk) :: acc) := fun p hp => .tail _ (.tail _ (.tail _ (.tail _ hp)))
  refine ⟨G.grow u ks c (3 + i), o2, odu, oh, oc, _, _, _, rfl, ?_, Gr.grow_ok hGok hun' hks' hGr (by omega) (law_obj u hum), ?_, ?_, ?_, hGm.mono hsub, hoh, ?_, ?_, ?_, hodu, ?_, ?_, ?_, h2, e1, e2, e3⟩
  · show G.names ++ [u] = _
    rw [hGn, List.take_add_one, hu, List.append_assoc]; rfl
  · intro n hn
    show (if n = u then 3 + i else G.rk n) < _
    by_cases e : n = u
    · rw [if_pos e]; omega
    · rw [if_neg e]
      have := hGr n ((List.mem_append.mp hn).elim id fun h => absurd (List.mem_singleton.mp h) e)
      omega
  · intro n hn
    by_cases e : n = u
    · rw [e, Gr.grow_kids_new]; exact hkd
    · rw [Gr.grow_kids_old e]
      exact hGd n ((List.mem_append.mp hn).elim id fun h => absurd (List.mem_singleton.mp h) e)
  · exact Gr.grow_cls hGok hun' hks' hGc hsub (.head _) (.tail _ (.head _)) (.tail _ (.tail _ (.head _)))
  · intro n hn
    by_cases e : n = u
    · refine ⟨l2, ys, ?_, .inr ⟨_, .tail _ (.tail _ (.tail _ (.head _))), rfl, _, rfl⟩, ?_⟩
      · rw [e]; exact valueAt_stored _ _ _
      · rw [e, Gr.grow_kids_new]; exact hys
    · obtain ⟨l, its, v1, v2, v3⟩ := hheirs n ((List.mem_append.mp hn).elim id fun h => absurd (List.mem_singleton.mp h) e)
      refine ⟨l, its, ?_, v2.elim .inl fun ⟨o, hm, r⟩ => .inr ⟨o, hsub _ hm, r⟩, ?_⟩
      · rw [valueAt_stored_ne _ (Ne.symm e), valueAt_stored_ne _ (Ne.symm e)]; exact v1
      · rw [Gr.grow_kids_old e]; exact v3
  · have := stored_len2 hk u (.ref l1) (.ref l2)
    omega
  · have hno : valueAt (G.names.map fun n => (n, Value.ref (G.adr n))) u = none := by
      refine valueAt_none_of_not_mem fun hm => hun' ?_
      rw [List.map_map] at hm
      obtain ⟨n, hn, rfl⟩ := List.mem_map.mp hm
      exact hn
    have e : (G.grow u ks c (3 + i)).names.map (fun n => (n, Value.ref ((G.grow u ks c (3 + i)).adr n))) = stored (G.names.map fun n => (n, .ref (G.adr n))) u (.ref c) := by
      rw [stored_absent hno]
      show (G.names ++ [u]).map _ = _
      rw [List.map_append]
      congr 1
      · refine List.map_congr_left fun n hn => ?_
        have hne : n ≠ u := fun e => hun' (by rw [← e]; exact hn)
        rw [Gr.grow_adr_old hne]
      · show [(u, Value.ref ((G.grow u ks c (3 + i)).adr u))] = _
        rw [Gr.grow_adr_new]
    rw [e]
    exact hoc
  · have := stored_len uk u (.ref c)
    omega
  · intro n hn
    have hne : u ≠ n := fun e => law_nine u hum (by rw [e]; exact hn)
    rw [valueAt_stored_ne _ hne]
    exact hun n hn
  · intro q hq
    rcases List.mem_cons.mp hq with rfl | hq
    · exact f1
    rcases List.mem_cons.mp hq with rfl | hq
    · exact f2
    rcases List.mem_cons.mp hq with rfl | hq
    · exact f3
    rcases List.mem_cons.mp hq with rfl | hq
    · exact f4
    exact hoffA q hq
theorem ne_list_dict {prog : Program} {w : World} {h₀ h : Heap} {L a d : Addr} {led : List (Addr × Obj)} {xs : Array Value} {k : Nat} {o : Obj} {kvs : List (Str × Value)} (N : News h₀ L h led) (ha : (a, listOf xs k) ∈ led) (hd : (d, o) ∈ led) (ho : o.IsDictOf (PySem.strKind prog w) kvs) : @Ne Nat a d := by
  intro e
  have e' : a = d := e
  subst e'
  have g1 := (N _ ha).1
  have g2 := (N _ hd).1
  dsimp only at g1 g2
  rw [g1] at g2
  obtain ⟨es, ep, _, hdat, _⟩ := ho
  rw [← Option.some.inj g2] at hdat
  cases hdat
theorem ne_cons {p : Addr × Obj} {r : List (Addr × Obj)} {D : Addr} (h : @Ne Nat p.1 D) (hs : ∀ q ∈ r, q.1 ≠ D) : ∀ q ∈ p :: r, q.1 ≠ D := fun q hq => (List.mem_cons.mp hq).elim (fun e => by rw [e]; exact h) (hs q)
theorem all_of {h₀ h : Heap} {L D : Addr} {p q : Addr × Obj} {rest : List (Addr × Obj)} (_N : News h₀ L h (p :: q :: rest)) (H : ∀ r ∈ rest, r.1 ≠ D) : ∀ r ∈ rest, r.1 ≠ D := H
theorem names_len {G : Gr} {i : Nat} (hGn : G.names = base8 ++ lawNames.take i) : (G.names.map fun n => (n, Value.ref (G.adr n))).length ≤ 30 := by
  have h1 : base8.length = 8 := rfl
  have h2 : (lawNames.take i).length ≤ 6 := by rw [List.length_take]; exact Nat.le_trans (Nat.min_le_right _ _) (Nat.le_of_ble_eq_true rfl)
  rw [List.length_map, hGn, List.length_append]
  omega
theorem off6_lt {D6 D5 I dc dh c1 a2 c3 : Addr × Obj} {acc : List (Addr × Obj)} {x du : Addr} (h : ∀ q ∈ D6 :: D5 :: I :: dc :: dh :: c1 :: a2 :: c3 :: acc, q.1 < x) (h' : @LT.lt Nat _ du x) : Off6 x dc.1 dh.1 c1.1 a2.1 c3.1 du ∧ @Ne Nat x I.1 :=
  have n : ∀ q ∈ D6 :: D5 :: I :: dc :: dh :: c1 :: a2 :: c3 :: acc, @Ne Nat x q.1 := fun q hq => Ne.symm (Nat.ne_of_lt (h q hq))
  ⟨⟨n _ (.tail _ (.tail _ (.tail _ (.head _)))), n _ (.tail _ (.tail _ (.tail _ (.tail _ (.head _))))), n _ (.tail _ (.tail _ (.tail _ (.tail _ (.tail _ (.head _)))))), n _ (.tail _ (.tail _ (.tail _ (.tail _ (.tail _ (.tail _ (.head _))))))),
    n _ (.tail _ (.tail _ (.tail _ (.tail _ (.tail _ (.tail _ (.tail _ (.head _)))))))), Ne.symm (Nat.ne_of_lt h')⟩, n _ (.tail _ (.tail _ (.head _)))⟩
theorem off6_ne {D6 D5 I dc dh c1 a2 c3 : Addr × Obj} {acc : List (Addr × Obj)} {x du : Addr} (h : ∀ q ∈ D6 :: D5 :: I :: dc :: dh :: c1 :: a2 :: c3 :: acc, q.1 ≠ x) (h' : @Ne Nat x du) : Off6 x dc.1 dh.1 c1.1 a2.1 c3.1 du ∧ @Ne Nat x I.1 :=
  have n : ∀ q ∈ D6 :: D5 :: I :: dc :: dh :: c1 :: a2 :: c3 :: acc, @Ne Nat x q.1 := fun q hq => Ne.symm (h q hq)
  ⟨⟨n _ (.tail _ (.tail _ (.tail _ (.head _)))), n _ (.tail _ (.tail _ (.tail _ (.tail _ (.head _))))), n _ (.tail _ (.tail _ (.tail _ (.tail _ (.tail _ (.head _)))))), n _ (.tail _ (.tail _ (.tail _ (.tail _ (.tail _ (.tail _ (.head _))))))),
    n _ (.tail _ (.tail _ (.tail _ (.tail _ (.tail _ (.tail _ (.tail _ (.head _)))))))), h'⟩, n _ (.tail _ (.tail _ (.head _)))⟩
end
end Mine
end
section
open PySem PySem.W PyProof.Rows PySem.Calls PySem.Spec
set_option maxRecDepth 100000
namespace Mine
section
variable {prog : Program} {w : World} {p : Program} {loose : List Str} {mean : ExcName → Option Value} {mg mb : Str → Option Value}
    {dp un : Nat} {gd : Option (List Code)} {cn : Str} {cs : Scope} {a : Addr} {ccd : Value} {cl : List (Str × Addr)} {outer : List Env} {A₀ : Around} {base h₀ : Heap} {L : Addr} {m : Str → Option Value} {news : List (Addr × Obj)} {s : Shared}
    {Q E : Value → Shared → Prop}
theorem isi_use {G : Gr} {i n : Str} {x : Addr} (ok : G.Ok) (hi : i ∈ G.names) (hn : n ∈ G.names)
    (B : Below A₀ base outer h₀) (F : Fr h₀ L s.heap m) (X : (topHead.heap_39 w.params).In h₀) (N : News h₀ L s.heap news) (T : Top p loose mean mg mb h₀) (hk : cs.kind = .function)
    (hC : ClsIn w news G) (hO : ObjAt prog w news x (G.adr i)) (hdp : dp + 40 < recursionLimit) (hun : un + 300 < cLine)
    (ret : ∀ b h' tk', (b = true ↔ Reach G.kids n i) → Fr h₀ L h' m → News h₀ L h' news → Q (.bool b) { s with heap := h', toks := tk' }) :
    wpAny (model prog w) (ktrTop dp un gd cn cs L a ccd cl outer) (call (.ref 35) [.ref x, .ref (G.adr n)]) Q E s :=
  have hl := ok.low n hn
  isi_tells ok hi n hn dp un gd cn cs a ccd cl outer A₀ base h₀ L m news s Q E x B F X N T hk hC hO (by omega) (by omega) ret
theorem pl_use {G : Gr} {n : Str} {v : Value} (ok : G.Ok) (hn : n ∈ G.names)
    (B : Below A₀ base outer h₀) (F : Fr h₀ L s.heap m) (X : (topHead.heap_39 w.params).In h₀) (N : News h₀ L s.heap news) (T : Top p loose mean mg mb h₀) (hk : cs.kind = .function)
    (hC : ClsIn w news G) (hO : PlainV news v) (hdp : dp + 40 < recursionLimit) (hun : un + 300 < cLine)
    (ret : ∀ h' tk', Fr h₀ L h' m → News h₀ L h' news → Q (.bool false) { s with heap := h', toks := tk' }) :
    wpAny (model prog w) (ktrTop dp un gd cn cs L a ccd cl outer) (call (.ref 35) [v, .ref (G.adr n)]) Q E s :=
  have hl := ok.low n hn
  pl_tells ok n hn dp un gd cn cs a ccd cl outer A₀ base h₀ L m news s Q E v B F X N T hk hC hO (by omega) (by omega) ret
theorem ob_use {v : Value} {mm du : Addr} {adr : Str → Addr}
    (B : Below A₀ base outer h₀) (F : Fr h₀ L s.heap m) (X : (topHead.heap_39 w.params).In h₀) (N : News h₀ L s.heap news) (T : Top p loose mean mg mb h₀) (hk : cs.kind = .function)
    (hM : Made prog w news mm du adr) (hdp : dp + 40 < recursionLimit) (hun : un + 300 < cLine)
    (ret : ∀ h' tk', Fr h₀ L h' m → News h₀ L h' news → Q (.bool true) { s with heap := h', toks := tk' }) :
    wpAny (model prog w) (ktrTop dp un gd cn cs L a ccd cl outer) (call (.ref 35) [v, .ref (adr (Str.ofString "OBJECT"))]) Q E s := by
  obtain ⟨dns, ls, imp, db, lb, oi, ob, ikv, bkv, kl, _, _, _, _, _, _, _, _, _, h10, _⟩ := hM
  obtain ⟨dc, li, t, j, u, v', k, g1, g2, g3, _⟩ := h10 (Str.ofString "OBJECT") (by decide +kernel)
  exact ob_tells dp un gd cn cs a ccd cl outer A₀ base h₀ L m news s Q E v (adr (Str.ofString "OBJECT")) dc li t j u v' B F X N T hk g1 g2 (by omega) (by omega) ret
theorem he_use {G : Gr} {n : Str} {dh : Addr} {oh : Obj} {kvs : List (Str × Value)} {tn : Tok} (ok : G.Ok) (hnd : G.names.Nodup) (hlen : G.names.length ≤ 20) (hkn : ∀ n ∈ G.names, (G.kids n).Nodup) (hn : n ∈ G.names)
    (B : Below A₀ base outer h₀) (F : Fr h₀ L s.heap m) (X : (topHead.heap_39 w.params).In h₀) (N : News h₀ L s.heap news) (T : Top p loose mean mg mb h₀) (hk : cs.kind = .function)
    (HI : HeirsIn prog w h₀ news dh oh kvs G.names G.kids) (hdp : dp + 40 < recursionLimit) (hun : un + 300 < cLine)
    (ret : ∀ D ys lk fs h' tk', StrsAre ys fs → (∀ x, x ∈ fs ↔ Reach G.kids n x) → Fr h₀ L h' m → News h₀ L h' ((D, listOf ys.toArray lk) :: news) → (∀ q ∈ news, q.1 ≠ D) → Q (.ref D) { s with heap := h', toks := tk' }) :
    wpAny (model prog w) (ktrTop dp un gd cn cs L a ccd cl outer) (call (.ref 293) [.ref dh, .str n tn]) Q E s :=
  he_tells hnd hlen (fun n hn k hk => (ok.kid n hn k hk).1) hkn hn dp un gd cn cs a ccd cl outer A₀ base h₀ L m news s Q E dh oh kvs tn B F X N T hk HI (by omega) (by omega) ret
end
theorem heirs_in {prog : Program} {w : World} {h₀ : Heap} {acc news : List (Addr × Obj)} {dh : Addr} {oh : Obj} {kvs : List (Str × Value)} {G : Gr} (hm : (dh, oh) ∈ news) (hoh : oh.IsDictOf (PySem.strKind prog w) kvs) (lo : (dh == sysModules) = false)
    (hheirs : ∀ n ∈ G.names, ∃ (l : Addr) (its : List Value), valueAt kvs n = some (.ref l) ∧ LCg.SrcAt h₀ l its.toArray acc ∧ StrsAre its (G.kids n)) (hs : ∀ p ∈ acc, p ∈ news) : HeirsIn prog w h₀ news dh oh kvs G.names G.kids :=
  ⟨hm, hoh, lo, fun n hn => let ⟨l, its, a, b, c⟩ := hheirs n hn; ⟨l, its, a, b.elim .inl fun ⟨o, hm, r⟩ => .inr ⟨o, hs _ hm, r⟩, c⟩⟩
theorem all_nodup {i : Nat} : (base8 ++ lawNames.take i).Nodup :=
  List.nodup_append.mpr ⟨base8_nodup, law_nodup.sublist (List.take_sublist _ _), fun a ha b hb e => law_base b (List.mem_of_mem_take hb) (e ▸ ha)⟩
theorem all_len {i : Nat} : (base8 ++ lawNames.take i).length ≤ 14 := by
  have h1 : base8.length = 8 := rfl
  have h2 : (lawNames.take i).length ≤ 6 := by rw [List.length_take]; exact Nat.le_trans (Nat.min_le_right _ _) (Nat.le_of_ble_eq_true rfl)
  rw [List.length_append]
  omega
theorem ne_seq_cell {h₀ h : Heap} {L a d : Addr} {led : List (Addr × Obj)} {oa o : Obj} {xs : Array Value} {k : Nat} {v : Option Value} (N : News h₀ L h led) (ha : (a, oa) ∈ led) (hd : (d, o) ∈ led) (hs : oa.data = .seq xs k) (ho : o.data = .cell v) : @Ne Nat a d := by
  intro e
  have e' : a = d := e
  subst e'
  have g1 := (N _ ha).1
  have g2 := (N _ hd).1
  dsimp only at g1 g2
  rw [g1] at g2
  rw [Option.some.inj g2, ho] at hs
  cases hs
theorem plain4 {news : List (Addr × Obj)} {a : Int} {t u : Tok} {x : Str} {LL : Addr} {xs : Array Value} {k i : Nat} {v : Value} (hv : ([.int a t, .str x u, .none, .ref LL] : List Value)[i]? = some v) (hm : (LL, listOf xs k) ∈ news) : PlainV news v := by
  have h := List.mem_of_getElem? hv
  simp only [List.mem_cons, List.not_mem_nil, or_false] at h
  rcases h with rfl | rfl | rfl | rfl
  · exact .int _ _
  · exact .str _ _
  · exact .none
  · exact .list hm
theorem none_kept {R : Nat → Value → Prop} {n : Nat} {ys : List Value} (h : All2 R ((List.range n).filter fun _ => false) ys) : ys = [] := by
  have e : (List.range n).filter (fun _ => false) = [] := List.filter_eq_nil_iff.mpr fun _ _ => Bool.false_ne_true
  rw [e] at h
  cases h
  rfl
section
open PyProof.Rows.LCg PyProof.Rows.LCt
variable {prog : Program} {w : World} {A : Around} {E : Value → Shared → Prop} {s : Shared} {h₀ : Heap} {L : Addr} {m : Str → Option Value} {env : Env}
def SrcTD (prog : Program) (w : World) (A : Around) (h₀ : Heap) (L : Addr) (m : Str → Option Value) (env : Env) (ct elt : PySem.Expr) (x : Str) (scope : Scope) (cl : List (Str × Addr)) (Q : Value → Shared → Prop) (xv : Value) (s₁ : Shared) : Prop :=
  ∃ d od, ∃ kvs : List (Str × Value), ∃ news, xv = .ref d ∧ A.handled = none ∧ Fr h₀ L s₁.heap m ∧ News h₀ L s₁.heap news ∧ (d, od) ∈ news ∧ od.IsDictOf (PySem.strKind prog w) kvs ∧ (d == sysModules) = false ∧ kvs.length ≤ sizeLine ∧
      ∀ s₂ : Shared, (∃ h, s₂ = { s₁ with heap := h }) → CompRestT prog w A h₀ L m env ct elt x scope cl s₂ (fun nw => (d, od) ∈ nw) (fun i v => ∃ k x', kvs[i]? = some (k, x') ∧ (PySem.strKind prog w).is k v = true) (FinE h₀ L m s₂ Q) kvs.length 0 [] news
theorem ListComp_TS {ct elt iter : PySem.Expr} {x : Str} {px : Pos} {scope : Scope} {cl : List (Str × Addr)} {pos : Pos} {Q : Value → Shared → Prop} (F₀ : Fr h₀ L s.heap m)
    (hclos : closureFor scope env = pure cl) (hcell : ∀ y ∈ scope.names, y.2 ≠ .cell) (hkind : scope.kind = .function)
    (hnames : ∀ y ∈ scope.names, y.2 = .local → scope.names.lookup y.1 = some .local) (hx : scope.names.lookup x = some .local)
    (h : wpAny (model prog w) A (eval iter env) (SrcTD prog w A h₀ L m env ct elt x scope cl Q) E s)
    (hs : ∀ x, foldedSetIterable iter env x = pure x := by intro _; rfl) :
    wpAny (model prog w) A (eval (.ListComp elt [⟨.Name x px, iter, [ct], 0⟩] scope pos) env) Q E s :=
  ListComp_TD F₀ hclos hcell hkind hnames hx h hs
end
theorem off_upd {p0 p1 p2 p3 : Addr × Obj} {a I : Addr} {o o' : Obj} {rest : List (Addr × Obj)} (h : ∀ p ∈ p0 :: p1 :: p2 :: p3 :: (a, o) :: rest, p.1 ≠ I) : ∀ p ∈ p0 :: p1 :: p2 :: p3 :: (a, o') :: rest, p.1 ≠ I := by
  intro p hp
  simp only [List.mem_cons] at hp
  rcases hp with rfl | rfl | rfl | rfl | rfl | hp
  · exact h _ (.head _)
  · exact h _ (.tail _ (.head _))
  · exact h _ (.tail _ (.tail _ (.head _)))
  · exact h _ (.tail _ (.tail _ (.tail _ (.head _))))
  · exact h (a, o) (.tail _ (.tail _ (.tail _ (.tail _ (.head _)))))
  · exact h _ (.tail _ (.tail _ (.tail _ (.tail _ (.tail _ hp)))))
theorem ends1 {m : Str → Option Value} {x : Str} {a : Value} (h1 : m x = some a) : m = fun q => if q = x then some a else m q := by
  funext q
  by_cases e1 : q = x
  · rw [if_pos e1, e1, h1]
  · rw [if_neg e1]
theorem ends2 {m : Str → Option Value} {x y : Str} {a b : Value} (h1 : m x = some a) (h2 : m y = some b) : m = fun q => if q = x then some a else if q = y then some b else m q := by
  funext q
  by_cases e1 : q = x
  · rw [if_pos e1, e1, h1]
  · rw [if_neg e1]
    by_cases e2 : q = y
    · rw [if_pos e2, e2, h2]
    · rw [if_neg e2]
theorem map_get {l : List Str} {f : Str → Addr} {i : Nat} {k : Str} {x : Value} (h : (l.map fun n => (n, Value.ref (f n)))[i]? = some (k, x)) : k ∈ l ∧ x = .ref (f k) := by
  rw [List.getElem?_map] at h
  obtain ⟨n, hn, e⟩ := Option.map_eq_some_iff.mp h
  cases e
  exact ⟨List.mem_of_getElem? hn, rfl⟩
theorem ends4 {m : Str → Option Value} {x y z t : Str} {a b c d : Value} (h1 : m x = some a) (h2 : m y = some b) (h3 : m z = some c) (h4 : m t = some d) : m = fun q => if q = x then some a else if q = y then some b else if q = z then some c else if q = t then some d else m q := by
  funext q
  by_cases e1 : q = x
  · rw [if_pos e1, e1, h1]
  · rw [if_neg e1]
    by_cases e2 : q = y
    · rw [if_pos e2, e2, h2]
    · rw [if_neg e2]
      by_cases e3 : q = z
      · rw [if_pos e3, e3, h3]
      · rw [if_neg e3]
        by_cases e4 : q = t
        · rw [if_pos e4, e4, h4]
        · rw [if_neg e4]
theorem obj_of {prog : Program} {w : World} {h₀ h : Heap} {L x dx c df : Addr} {t0 t1 : Tok} {of : Obj} {rest : List (Addr × Obj)} (_N : News h₀ L h ((x, instObj 80 dx) :: (dx, dictOf [en w "_tx_class" t0 (.ref c), en w "_tx_fields" t1 (.ref df)] 2) :: (df, of) :: rest)) (hof : of.IsDictOf (PySem.strKind prog w) []) (lo : (df == sysModules) = false) :
    ObjAt prog w ((x, instObj 80 dx) :: (dx, dictOf [en w "_tx_class" t0 (.ref c), en w "_tx_fields" t1 (.ref df)] 2) :: (df, of) :: rest) x c :=
  ⟨dx, df, (fun i => [t0, t1].getD i 0), of, .head _, .tail _ (.head _), .tail _ (.tail _ (.head _)), hof, lo⟩
/-- two booleans that tell one thing are one -/
theorem same_bool {b : Bool} {P : Prop} {fs : List Str} {x : Str} (h : b = true ↔ P) (hf : x ∈ fs ↔ P) : b = fs.any (· == x) := by
  have hx : (fs.any (· == x)) = true ↔ x ∈ fs := by
    rw [List.any_eq_true]
    exact ⟨fun ⟨y, hy, e⟩ => (beq_iff_eq.mp e) ▸ hy, fun h => ⟨x, h, beq_iff_eq.mpr rfl⟩⟩
  exact Bool.eq_iff_iff.mpr (h.trans (hf.symm.trans hx.symm))
end Mine
end
section
open PySem PySem.W PyProof.Rows PySem.Calls PySem.Spec
set_option maxRecDepth 100000
namespace Mine
section
variable {prog : Program} {w : World} {A : Around} {E : Value → Shared → Prop} {s : Shared} {env : Env} {h₀ : Heap} {body : List Stmt} {Q : Flow → Shared → Prop} {target : PySem.Expr}
/-- a loop over a tuple of the ledger, its target anything -/
theorem loop_tup {ax : Addr} {lo : Obj} {vs : List Value} {nn : Nat} {m₀ : Str → Option Value} {news : List (Addr × Obj)} (J : Nat → (Str → Option Value) → List (Addr × Obj) → Prop)
    (hh : A.handled = none) (hl : (ax, lo) ∈ news) (hc : lo.cls = .type "tuple") (hd : lo.data = .seq vs.toArray nn) (F : Fr h₀ env.locals s.heap m₀) (N : News h₀ env.locals s.heap news) (hj : J 0 m₀ news)
    (turn : ∀ I i v m₁ nx h tk oI, vs[i]? = some v → (ax, lo) ∈ nx → (∀ p ∈ nx, p.1 ≠ I) → J i m₁ nx → Fr h₀ env.locals h m₁ → News h₀ env.locals h ((I, oI) :: nx) →
      wpAny (model prog w) A (assign target env v) (fun _ s₃ => wpAny (model prog w) A (execs body env) (TPost h₀ env.locals (J (i + 1)) (I, oI) [(ax, lo)] { s with heap := h, toks := tk } Q) E s₃) E { s with heap := h, toks := tk })
    (done : ∀ m₁ nx h tk, (ax, lo) ∈ nx → J vs.length m₁ nx → Fr h₀ env.locals h m₁ → News h₀ env.locals h nx → Q .next { s with heap := h, toks := tk }) :
    wpAny (model prog w) A (pyIter (.ref ax)) (fun it s₂ => TurnsAt prog w A h₀ env target body Q E it s₂) E s := by
  have hax := N _ hl
  have hls : s.heap.IsTuple ax vs.toArray := ⟨lo, hax.1, hc, nn, hd⟩
  have hlt : ax < s.heap.objs.size := Heap.lt_size hax.1
  have hne : ax ≠ s.heap.objs.size := Nat.ne_of_lt hlt
  have hI₀ := next_is_new F
  refine wpAny_pyIter_tuple hls ?_
  have W := Walks.tuple (prog := prog) (w := w) hh s.heap.objs.size ax hne vs.toArray
  have hlen : vs.toArray.size = vs.length := by simp
  rw [hlen] at W
  refine ⟨s.heap.objs.size, _, _, vs.length, _, _, _, m₀, news, (fun i m nx => (∀ p ∈ [(ax, lo)], p ∈ nx) ∧ J i m nx), rfl, KTurns.ofWalks W (fun i v s Q E st q => letGo_tupleiter st.1 q), ?_, ?_, ?_,
    ⟨⟨_, Heap.get?_push_size _ rfl, rfl, rfl⟩, hls.at fun o e => Heap.get?_push_of_some _ e⟩, F.push _, fun p hp => ⟨Heap.get?_push_of_some _ (N p hp).1, (N p hp).2⟩, ⟨fun p hp => by rw [List.mem_singleton.mp hp]; exact hl, hj⟩, ?_, ?_⟩
  · intro hm
    rcases List.mem_cons.mp hm with e | hm
    · exact absurd F.ns.lt (e ▸ Nat.lt_irrefl _)
    · exact (N _ hl).2.1 ((List.mem_singleton.mp hm).symm)
  · intro b hb
    rw [List.mem_singleton.mp hb]
    exact hI₀
  · intro p hp hI
    have e := List.mem_singleton.mp hI
    exact absurd (Heap.lt_size (N p hp).1) (e ▸ Nat.lt_irrefl _)
  · rintro i v m₁ news₁ hh' tk' own hin hP ⟨hm₁, hJ⟩ hoff hown hget hmem hst' F₁ N₁
    obtain ⟨oI, hoI, _⟩ := hst'.1
    have hIown : (s.heap.objs.size, oI) ∈ own := hmem _ (.head _) hI₀ oI hoI
    have hne : ∀ p ∈ news₁, p.1 ≠ s.heap.objs.size := fun p hp e => hoff p hp (List.mem_singleton.mpr e)
    have N₂ : News h₀ env.locals hh' ((s.heap.objs.size, oI) :: news₁) := fun p hp => by
      rcases List.mem_cons.mp hp with rfl | hp
      · exact N₁ _ (List.mem_append.mpr (.inl hIown))
      · exact N₁ p (List.mem_append.mpr (.inr hp))
    have hP' : vs[i]? = some v := by have hp' : vs.toArray[i]? = some v := hP; simpa using hp'
    refine wpAny_mono (turn _ i v m₁ news₁ hh' tk' oI hP' (hm₁ _ (.head _)) hne hJ F₁ N₂) (fun _ s₃ p₃ => wpAny_mono p₃ (fun f s₂ p => ?_) fun _ _ e => e) fun _ _ e => e
    have fin : TEnd h₀ env.locals (J (i + 1)) (s.heap.objs.size, oI) [(ax, lo)] { s with heap := hh', toks := tk' } s₂ → LoopStepU h₀ env.locals [s.heap.objs.size] own (fun m nx => (∀ p ∈ [(ax, lo)], p ∈ nx) ∧ J (i + 1) m nx) { s with heap := hh', toks := tk' } .next s₂ := by
      rintro ⟨h', tk, m', nx, e, F', N', hm', ha, hJ'⟩
      refine ⟨rfl, h', tk, m', nx, e, F', fun p hp => ?_, fun p hp hq => ha p hp (List.mem_singleton.mp hq), hm', hJ'⟩
      rcases List.mem_append.mp hp with hp | hp
      · rcases List.mem_cons.mp (hown p hp) with e1 | e1
        · have : p = (s.heap.objs.size, oI) := by
            have g := hget p hp
            rw [e1, hoI] at g
            exact Prod.ext e1 (Option.some.inj g).symm
          rw [this]
          exact N' _ (.head _)
        · have e1 := List.mem_singleton.mp e1
          have g := hget p hp
          have g2 := (N₁ (ax, lo) (List.mem_append.mpr (.inr (hm₁ _ (.head _))))).1
          rw [e1] at g
          dsimp only at g2
          rw [g2] at g
          have : p = (ax, lo) := Prod.ext e1 (Option.some.inj g).symm
          rw [this]
          exact N' _ (List.mem_cons_of_mem _ (hm' _ (.head _)))
      · exact N' p (List.mem_cons_of_mem _ hp)
    cases f with
    | ret v => exact .ret p
    | brk => exact .brk p
    | next => exact .next (fin p)
    | cont => exact .cont (fin p)
  · rintro h' tk m' news' F' N' _ ⟨hm', hJ⟩
    exact done m' news' h' tk (hm' _ (.head _)) hJ F' N'
end
end Mine
end
section
open PySem PySem.W PyProof.Rows PySem.Calls PySem.Spec
set_option maxRecDepth 100000
set_option rowWalk.seconds 0
namespace Mine
theorem fresh_lz : True := by
  w_top off
  trivial
local macro_rules | `(tactic| k_mem) => `(tactic| first | exact List.mem_cons_self | (refine List.mem_cons_of_mem _ ?_; k_mem) | assumption)
local macro_rules | `(tactic| walk_at "call ref") => `(tactic| ((with_reducible show wpAny _ _ (call (Value.ref 267) _ _) _ _ _); refine halt ?_))
theorem mm_use {prog : Program} {w : World} {p : Program} {loose : List Str} {mean : ExcName → Option Value} {mg mb : Str → Option Value} (H : MmTells prog w p loose mean mg mb)
    {dp un : Nat} {gd : Option (List Code)} {cn : Str} {cs : Scope} {a : Addr} {ccd : Value} {cl : List (Str × Addr)} {outer : List Env} {A₀ : Around} {base h₀ : Heap} {L : Addr} {m : Str → Option Value} {news : List (Addr × Obj)} {s : Shared}
    {Q E : Value → Shared → Prop} (B : Below A₀ base outer h₀) (F : Fr h₀ L s.heap m) (X : (topHead.heap_39 w.params).In h₀) (N : News h₀ L s.heap news) (T : Top p loose mean mg mb h₀) (hk : cs.kind = .function)
    (hdp : dp + 60 < recursionLimit) (hun : un + 600 < cLine)
    (ret : ∀ mm du odu adr led h' tk', Fr h₀ L h' m → News h₀ L h' ((du, odu) :: (led ++ news)) → odu.IsDictOf (PySem.strKind prog w) [] → (du == sysModules) = false → (∀ q ∈ led, q.1 ≠ du) → (∀ p ∈ news, @LT.lt Nat _ p.1 du) → (∀ q ∈ led, ∀ p ∈ news, @LT.lt Nat _ p.1 q.1) → Made prog w led mm du adr → Q (.ref mm) { s with heap := h', toks := tk' }) :
    wpAny (model prog w) (ktrTop dp un gd cn cs L a ccd cl outer) (call (.ref 267) []) Q E s :=
  H dp un gd cn cs a ccd cl outer A₀ base h₀ L m news s Q E B F X N T hk hdp hun ret
theorem gi_use {prog : Program} {w : World} {p : Program} {loose : List Str} {mean : ExcName → Option Value} {mg mb : Str → Option Value}
    {dp un : Nat} {gd : Option (List Code)} {cn : Str} {cs : Scope} {a : Addr} {ccd : Value} {cl : List (Str × Addr)} {outer : List Env} {A₀ : Around} {base h₀ : Heap} {L : Addr} {m : Str → Option Value} {news : List (Addr × Obj)} {s : Shared}
    {Q E : Value → Shared → Prop} {mm du : Addr} {odu : Obj} {adr : Str → Addr} {ukv : List (Str × Value)} {n : Str} {tn : Tok}
    (B : Below A₀ base outer h₀) (F : Fr h₀ L s.heap m) (X : (topHead.heap_39 w.params).In h₀) (N : News h₀ L s.heap news) (T : Top p loose mean mg mb h₀) (hk : cs.kind = .function)
    (hM : Made prog w news mm du adr) (hdu : (du, odu) ∈ news) (hodu : odu.IsDictOf (PySem.strKind prog w) ukv) (lo : (du == sysModules) = false) (hn : n ∈ nine) (hno : valueAt ukv n = none) (hdp : dp + 20 < recursionLimit) (hun : un + 200 < cLine)
    (ret : ∀ h' tk', Fr h₀ L h' m → News h₀ L h' news → Q (.ref (adr n)) { s with heap := h', toks := tk' }) :
    wpAny (model prog w) (ktrTop dp un gd cn cs L a ccd cl outer) (call (.ref 242) [.ref mm, .str n tn]) Q E s :=
  wpAny_call (gi_tells dp un gd cn cs a ccd cl outer A₀ base h₀ L m news s _ mm du odu adr ukv n tn B F X N T hk hM hdu hodu lo hn hno hdp hun ret)
theorem ce_use {prog : Program} {w : World} {p : Program} {loose : List Str} {mean : ExcName → Option Value} {mg mb : Str → Option Value}
    {dp un : Nat} {gd : Option (List Code)} {cn : Str} {cs : Scope} {a : Addr} {ccd : Value} {cl : List (Str × Addr)} {outer : List Env} {A₀ : Around} {base h₀ : Heap} {L : Addr} {m : Str → Option Value} {news : List (Addr × Obj)} {s : Shared}
    {Q E : Value → Shared → Prop} {sc : Addr} {vs : List Value} {ns : List Int} {k : Int} {tk : Tok}
    (B : Below A₀ base outer h₀) (F : Fr h₀ L s.heap m) (X : (topHead.heap_39 w.params).In h₀) (N : News h₀ L s.heap news) (T : Top p loose mean mg mb h₀) (hk : cs.kind = .function)
    (hL : h₀.IsList sc vs.toArray) (hI : IntsAre vs ns) (hlen : ns.length ≤ 63) (h0 : 0 ≤ k) (h1 : k ≤ 10) (hdp : dp + 12 < recursionLimit) (hun : un + 80 < cLine)
    (ret : ∀ d td h' tk', Fr h₀ L h' m → News h₀ L h' news → Q (.int d td) { s with heap := h', toks := tk' }) :
    wpAny (model prog w) (ktrTop dp un gd cn cs L a ccd cl outer) (call (.ref 288) [.ref sc, .int k tk]) Q E s :=
  ce_tells dp un gd cn cs a ccd cl outer A₀ base h₀ L m news s Q E sc vs ns k tk B F X N T hk hL hI hlen h0 h1 hdp hun ret
theorem nc_use {prog : Program} {w : World} {p : Program} {loose : List Str} {mean : ExcName → Option Value} {mg mb : Str → Option Value}
    {dp un : Nat} {gd : Option (List Code)} {cn : Str} {cs : Scope} {a : Addr} {ccd : Value} {cl : List (Str × Addr)} {outer : List Env} {A₀ : Around} {base h₀ : Heap} {L : Addr} {m : Str → Option Value} {news : List (Addr × Obj)} {s : Shared}
    {Q E : Value → Shared → Prop} {mm dns ls imp dcur lj : Addr} {ocur : Obj} {kvs : List (Str × Value)} {nm : Str} {tn : Tok} {at_ : Int} {ta : Tok} {vs : List Value} {kj : Nat}
    (B : Below A₀ base outer h₀) (F : Fr h₀ L s.heap m) (X : (topHead.heap_39 w.params).In h₀) (N : News h₀ L s.heap ((dcur, ocur) :: news)) (T : Top p loose mean mg mb h₀) (hk : cs.kind = .function)
    (hM : MmIn prog w news mm dns ls imp dcur none .none) (hD : ocur.IsDictOf (PySem.strKind prog w) kvs) (hne : ∀ q ∈ news, q.1 ≠ dcur) (hkl : kvs.length ≤ 30) (hj : (lj, listOf vs.toArray kj) ∈ news) (hvl : vs.length ≤ 30) (hdp : dp + 20 < recursionLimit) (hun : un + 200 < cLine)
    (ret : ∀ c dc li kl ocur' t j u v h' tk', Fr h₀ L h' m → News h₀ L h' ((c, instObj 52 dc) :: (dc, clsD w t j nm u v li) :: (li, listOf vs.toArray kl) :: (dcur, ocur') :: news) → ocur'.IsDictOf (PySem.strKind prog w) (stored kvs nm (.ref c)) →
      (∀ q ∈ news, q.1 < c) → (∀ q ∈ news, q.1 < dc) → (@LT.lt Nat _ dcur c) → (@LT.lt Nat _ dcur dc) → (li = lj ∨ ∀ q ∈ news, q.1 ≠ li) → Q (.ref c) { s with heap := h', toks := tk' }) :
    wpAny (model prog w) (ktrTop dp un gd cn cs L a ccd cl outer) (call (.ref 212) [.ref mm, .str nm tn, .none, .int at_ ta] [(Str.ofString "inherits", .ref lj)]) Q E s :=
  nc_tells dp un gd cn cs a ccd cl outer A₀ base h₀ L m news s Q E mm dns ls imp dcur lj ocur kvs nm tn at_ ta vs kj B F X N T hk hM hD hne hkl hj hvl hdp hun ret
theorem ends_name {m₁ bm : Str → Option Value} (h : ∀ y, y ≠ Str.ofString "name" → m₁ y = bm y) : m₁ = fun y => if y = Str.ofString "name" then m₁ (Str.ofString "name") else bm y := by
  funext y
  by_cases e : y = Str.ofString "name"
  · rw [if_pos e, e]
  · rw [if_neg e, h y e]
theorem frL {h₀ h : Heap} {L : Addr} {kindOf : Str → Option NameKind} {x : Str} {v : Value} (F : Fr h₀ L h (bindL kindOf [(x, v)] (fun _ => none))) (hk : kindOf x = some .local) : Fr h₀ L h (fun y => if y = x then some v else none) := by
  unfold bindL at F
  rw [if_pos hk] at F
  exact F
local macro_rules | `(tactic| k_all) => `(tactic| with_reducible assumption)
local macro_rules | `(tactic| walk_at "eval Dict nil nil") => `(tactic| refine halt ?_)
local macro_rules | `(tactic| walk_at "pyIter ref") => `(tactic| refine halt ?_)
local macro_rules | `(tactic| walk_at "exec For Name Name cons nil") => `(tactic| (k_here; refine forV (by k_asm) (by with_unfolding_all rfl) (by with_unfolding_all rfl) ?_ (hE := by first | passes_own | with_unfolding_all passes_own)))
local macro_rules | `(tactic| walk_at "subscriptTail Name Name ref str") => `(tactic| (k_here; k_dflt (refine' sub_K ?k1 ?k2 ?k3 ?k4 ?k5 ?k6 ?_; (case k1 => k_asm); (case k2 => k_asm); (case k3 => k_inst); (case k4 => k_is); (case k5 => k_is); (case k6 => k_is); k_whole)))
local macro_rules | `(tactic| walk_at "subscriptTail Name Name ref str") => `(tactic| (k_here; (with_reducible show wpAny _ _ (subscriptTail _ _ (Value.ref 273) (Value.str _ _)) _ _ _); k_dflt (refine kdK_item (knd := PySem.strKind _ _) (by k_asm) (by assumption) (strKind_is _ _ _ _) (by assumption) ?_)))
local macro_rules | `(tactic| walk_at "call ref") => `(tactic| (k_here; (with_reducible show wpAny _ _ (call (Value.ref 242) _ _) _ _ _); (with_unfolding_all show wpAny _ _ (call (Value.ref _) [Value.ref _, Value.str _ _] []) _ _ _); k_dflt (refine' gi_use ?B ?F ?X ?N ?T ?hk ?hM ?h1 ?h2 ?h3 ?h4 ?h5 ?dd ?uu ?_; (case B => k_asm); (case F => k_asm); (case X => k_asm); (case N => k_asm); (case T => k_asm); (case hk => first | exact rfl | assumption); (case hM => exact Made.mono (by assumption) (by intro p hp; repeat (first | exact hp | refine List.mem_cons_of_mem _ ?_))); (case h1 => k_mem); (case h2 => k_asm); (case h3 => k_asm); (case h4 => assumption); (case h5 => first | assumption | rfl); (case dd => first | k_room | ktr_room); (case uu => first | k_units | ktr_units); k_whole; intro h' tk' F' N'; (try k_sweep))))
local macro_rules | `(tactic| walk_at "setItem ref str") => `(tactic| (k_here; k_dflt (refine' kda_set (knd := PySem.strKind _ _) ?F ?N ?U ?d (strKind_is _ _ _ _) ?z ?_; (case F => k_asm); (case N => k_asm); (case U => k_updF); (case d => k_asm); (case z => rw [sizeLine_eq]; first | (refine Nat.le_trans (by assumption) (Nat.le_of_ble_eq_true rfl : 30 ≤ 16777216)) | omega)); intro h' o' F' N' hd'; (try dsimp only at N')))
local macro_rules | `(tactic| walk_at "call ref") => `(tactic| (k_here; (with_reducible show wpAny _ _ (call (Value.ref 288) _ _) _ _ _); (with_unfolding_all show wpAny _ _ (call (Value.ref _) [Value.ref _, Value.int _ _] []) _ _ _); k_dflt (refine' ce_use ?B ?F ?X ?N ?T ?hk ?h1 ?h2 ?h3 ?h4 ?h5 ?dd ?uu ?_; (case B => k_asm); (case F => k_asm); (case X => k_asm); (case N => k_asm); (case T => k_asm); (case hk => first | exact rfl | assumption); (case h1 => assumption); (case h2 => assumption); (case h3 => omega); (case h4 => omega); (case h5 => omega); (case dd => first | k_room | ktr_room); (case uu => first | k_units | ktr_units); k_whole; intro dd9 td9 h' tk' F' N'; (try k_sweep))))
local macro_rules | `(tactic| walk_at "subscriptTail Name Name ref int") => `(tactic| (k_here; (with_reducible show wpAny _ _ (subscriptTail _ _ (Value.ref 272) (Value.int _ _)) _ _ _); k_dflt (refine' names_item ?F ?X ?hy ?_; (case F => k_asm); (case X => k_asm); (case hy => assumption); k_whole; intro t9')))
local macro_rules | `(tactic| walk_at "storeName int") => `(tactic| refine halt ?_)
local macro_rules | `(tactic| walk_at "eval ListComp") => `(tactic| refine halt ?_)
local macro_rules | `(tactic| walk_at "CompSrcT") => `(tactic| refine halt ?_)
local macro_rules | `(tactic| walk_at "subscriptTail List cons Name ref int") => `(tactic| (k_here; k_dflt (refine kba_turn (value' := PySem.Expr.Name (PySem.Str.ofString "q") ⟨0, 0, 0, 0⟩) (fun _ => rfl) ?_; refine' pow_item ?N ?m ?hi ?_; (case N => k_asm); (case m => k_mem); (case hi => assumption); k_whole; intro z9 t9' hz9)))
local macro_rules | `(tactic| walk_at "binaryOp FloorDiv int int") => `(tactic| (refine floordiv_int (by first | assumption | decide) ?_))
local macro_rules | `(tactic| walk_at "subscriptTail Name Name ref str") => `(tactic| (k_here; (with_reducible show wpAny _ _ (subscriptTail _ _ (Value.ref _) (Value.str _ _)) _ _ _); k_dflt (refine kda_item (knd := PySem.strKind _ _) (by k_asm) (by k_mem) (by k_asm) (strKind_is _ _ _ _) (by assumption) ?_)))
local macro_rules | `(tactic| walk_at "eval IfExp Compare List List") => `(tactic| refine halt ?_)
local macro_rules | `(tactic| walk_at "binaryOp Add ref ref") => `(tactic| refine halt ?_)
local macro_rules | `(tactic| walk_at "CompSrc") => `(tactic| refine halt ?_)
local macro_rules | `(tactic| walk_at "call ref") => `(tactic| ((with_reducible show wpAny _ _ (call (Value.ref 212) _ _) _ _ _); refine halt ?_))
local macro_rules | `(tactic| walk_at "call ref") => `(tactic| ((with_reducible show wpAny _ _ (call (Value.ref 35) _ _) _ _ _); refine halt ?_))
local macro_rules | `(tactic| walk_at "call ref") => `(tactic| ((with_reducible show wpAny _ _ (call (Value.ref 293) _ _) _ _ _); refine halt ?_))
local macro_rules | `(tactic| walk_at "compareOp In str ref") => `(tactic| (k_here; k_dflt (refine' in_list_strs ?a ?b ?_; (case a => exact News.isList (by k_asm) (by k_mem)); (case b => assumption); k_whole)))
local macro_rules | `(tactic| walk_at "SrcTD") => `(tactic| refine halt ?_)
set_option maxHeartbeats 0 in
theorem law_holds : PySem.Challenge.rw_ez0375_01.Holds := topHead (by
  k_go0
  all_goals try k_fold
  k_steps
  show wpAny _ _ _ _ _ _
  with_reducible show wpAny _ _ (call (Value.ref 267) _ _) _ _ _
  with_unfolding_all show wpAny _ _ (call (Value.ref _) [] []) _ _ _
  refine' mm_use mm_tells ?B ?F ?X ?N ?T ?hk ?dd ?uu ?_
  case B => k_asm
  case F => k_asm
  case X => k_asm
  case N => k_asm
  case T => k_asm
  case hk => first | exact rfl | assumption
  case dd => decide
  case uu => decide
  k_whole
  intro mm du odu adr led h' tk' F' N' hodu lo_du hoff hltdu hlt hMade
  (rename IntsAre _ _ => hInts)
  (rename Heap.IsList _ _ _ => hList)
  (rename ¬ _ < _ => hcond)
  have F2 := frL (x := Str.ofString "script") (by with_unfolding_all exact F') (by with_unfolding_all rfl)
  clear F'
  have N2 := rearr3 N'
  have k1 := hltdu _ (.head _)
  have k2 := hltdu _ (.tail _ (.head _))
  have k3 := hltdu _ (.tail _ (.tail _ (.head _)))
  have o1 : ∀ q ∈ led, q.1 ≠ _ := fun q hq => Ne.symm (Nat.ne_of_lt (hlt q hq _ (.head _)))
  have o2 : ∀ q ∈ led, q.1 ≠ _ := fun q hq => Ne.symm (Nat.ne_of_lt (hlt q hq _ (.tail _ (.head _))))
  have o3 : ∀ q ∈ led, q.1 ≠ _ := fun q hq => Ne.symm (Nat.ne_of_lt (hlt q hq _ (.tail _ (.tail _ (.head _)))))
  dsimp only at k1 k2 k3 o1 o2 o3
  clear N' hltdu hlt
  k_steps
  show wpAny _ _ _ _ _ _
  k_dflt (refine' newDict_K ?k1 ?k2 (TopRead.nolimit (by k_asm)) ?_; (case k1 => k_asm); (case k2 => k_asm); k_whole; intro dh h' oh F' N' l1 lo_dh hs_dh fs' hi' fi'; (try k_sweep))
  k_lt l1
  k_steps
  show wpAny _ _ _ _ _ _
  k_dflt (refine' newDict_K ?k1 ?k2 (TopRead.nolimit (by k_asm)) ?_; (case k1 => k_asm); (case k2 => k_asm); k_whole; intro dc h' ocl F' N' l2 lo_dc hs_dc fs' hi' fi'; (try k_sweep))
  k_lt l2
  k_steps
  show wpAny _ _ _ _ _ _
  (rename Fr _ _ _ _ => F9)
  (rename News _ _ _ _ => N9)
  (rename _ = Data.cell (some (Value.ref dc)) => hcl)
  (rename Frag.In _ _ => KX9)
  have hol := KX9 273 _ (by k_is)
  have hD273 := dictOf_K (prog := PySem.Challenge.rw_ez0375_01.row.prog) (d := 273) (kvs := kvs8) KX9 (by k_is) (by k_keys) (by repeat (first | exact .nil | refine .cons (strKind_is _ _ _ _) rfl ?_)) kvs8_nodup
  have hMade1 := hMade
  obtain ⟨dns, ls, imp, db, lb, oi, ob, ikv, bkv, kl, ⟨dm, tm, jm, ons, nkv, kk2, hm1, hm2, _⟩, _⟩ := hMade1
  refine loop_dictK (knd := PySem.strKind _ _) (kvs := kvs8) (J1 _ _ _ _ _ _ du odu dh dc led adr) rfl hol (hD273.keep F9.keep) (by decide) F9 (newsS N9 fun p hp => .tail _ hp) (Ne.symm (Nat.ne_of_lt (Nat.lt_of_lt_of_le (Heap.lt_size hol) F9.above))) ⟨oh, ocl, rfl, hs_dh, hs_dc, fun _ _ => rfl⟩ ?_ ?_
  · rintro I i kk x9 v9 m₁ nx h₁ tk₁ oI hk9 hv9 hne ⟨oh', oc', rfl, hoh, hoc, hm₁⟩ F₁ N₁
    rw [lk_ns hm₁] at F₁
    obtain ⟨t9, rfl⟩ := Value.isStrOf_shape hv9
    have hval9 : valueAt kvs8 kk = some x9 := valueAt_of_get kvs8_nodup hk9
    have hnine := kvs8_nine hk9
    clear F9 N9 hm₁
    have z1 : (kvs8.take i).length ≤ 30 := Nat.le_trans (by rw [List.length_take]; exact Nat.min_le_right _ _) (by decide : kvs8.length ≤ 30)
    have z2 : ((kvsC adr).take i).length ≤ 30 := Nat.le_trans (by rw [List.length_take]; exact Nat.min_le_right _ _) (Nat.le_of_ble_eq_true rfl : (kvsC adr).length ≤ 30)
    have i1 : @Ne Nat dc I := hne _ (.head _)
    have i2 : @Ne Nat dh I := hne _ (.tail _ (.head _))
    k_steps
    (rename Fr _ _ _ _ => F5)
    (rename News _ _ _ _ => N5)
    (rename Obj.IsDictOf _ _ (stored (List.take _ kvs8) _ _) => hA5)
    (rename Obj.IsDictOf _ _ (stored (List.take _ (kvsC _)) _ _) => hC5)
    rw [stored_take kvs8_nodup hk9] at hA5
    rw [stored_take (kvsC_nodup adr) (kvsC_get hk9)] at hC5
    refine TPost.next ⟨_, _, _, _, rfl, F5, newsS N5 (fun p hp => .tail _ hp), (fun p hp => nomatch hp), ?_, ⟨_, _, rfl, hA5, hC5, fun y hy => by simp [hy]⟩⟩
    intro p hp
    rcases List.mem_cons.mp hp with rfl | hp
    · exact hne (dc, oc') (.head _)
    rcases List.mem_cons.mp hp with rfl | hp
    · exact hne (dh, oh') (.tail _ (.head _))
    exact hne p (.tail _ (.tail _ hp))
  · rintro m₁ nx h₁ tk₁ ⟨oh', oc', rfl, hoh, hoc, hm₁⟩ F₁ N₁
    rw [ends_name hm₁] at F₁
    k_steps
    show wpAny _ _ _ _ _ _
    (rename Fr _ _ _ _ => F9)
    (rename News _ _ _ _ => N9)
    (rename IsRange _ _ _ _ _ _ _ _ => hR9)
    (rename Int => d0)
    have hd0 : 0 ≤ d0.fmod 6 := Int.fmod_nonneg_of_pos _ (by decide)
    have hd1 : d0.fmod 6 < 6 := Int.fmod_lt_of_pos _ (by decide)
    refine loop_range (n := (1 + d0.fmod 6).toNat) (J2 _ _ _ _ _ _ _ mm du dh dc adr) rfl hR9 (small6 hd0 hd1) (size6 hd0 hd1) F9 N9 (J2.start KX9 hMade hoh hoc hodu ?_ ⟨_, by assumption⟩ rfl rfl rfl) ?_ ?_
    · exact fun q hq => ⟨Nat.ne_of_lt (tb_ltOf (by tbn_find) q hq), Nat.ne_of_lt (tb_ltOf (by tbn_find) q hq), o1 q hq, o2 q hq, o3 q hq, hoff q hq⟩
    · rintro I i t9 m₁ nx h₁ tk₁ oI hi9 hne ⟨G, o2, odu', oh', oc', hk, uk, acc, rfl, hGn, hGok, hGr, hGd, hGc, hGm, hoh, hheirs, hhl, hoc, hodu', hul, hun, hoffA, ⟨v2, ho2⟩, hm1', hm2', hm3'⟩ F₁ N₁
      rw [ends3 hm1' hm2' hm3', Int.zero_add] at F₁
      clear F9 N9
      have hi6 : i < 6 := by omega
      have w1 : @Ne Nat dc du := by omega
      have w2 : @Ne Nat dh du := by omega
      have w3 := Nat.ne_of_lt k1
      have w6 : @Ne Nat dh dc := by omega
      have w7 : @Ne Nat _ dc := Nat.ne_of_lt (Nat.lt_trans k1 (show @LT.lt Nat _ du dc by omega))
      have w8 : @Ne Nat _ dc := Nat.ne_of_lt (Nat.lt_trans k2 (show @LT.lt Nat _ du dc by omega))
      have w9 : @Ne Nat _ dc := Nat.ne_of_lt (Nat.lt_trans k3 (show @LT.lt Nat _ du dc by omega))
      have w4 := Nat.ne_of_lt k2
      have w5 := Nat.ne_of_lt k3
      have a1 : ∀ q ∈ acc, q.1 ≠ _ := fun q hq => (hoffA q hq).1
      have a2 : ∀ q ∈ acc, q.1 ≠ _ := fun q hq => (hoffA q hq).2.1
      have a3 : ∀ q ∈ acc, q.1 ≠ _ := fun q hq => (hoffA q hq).2.2.1
      have a4 : ∀ q ∈ acc, q.1 ≠ _ := fun q hq => (hoffA q hq).2.2.2.1
      have a5 : ∀ q ∈ acc, q.1 ≠ _ := fun q hq => (hoffA q hq).2.2.2.2.1
      have a6 : ∀ q ∈ acc, q.1 ≠ _ := fun q hq => (hoffA q hq).2.2.2.2.2
      dsimp only at a1 a2 a3 a4 a5 a6
      have i1 : @Ne Nat dc I := hne _ (.head _)
      have i2 : @Ne Nat dh I := hne _ (.tail _ (.head _))
      have i3 : @Ne Nat _ I := hne _ (.tail _ (.tail _ (.head _)))
      have i4 : @Ne Nat _ I := hne _ (.tail _ (.tail _ (.tail _ (.head _))))
      have i5 : @Ne Nat _ I := hne _ (.tail _ (.tail _ (.tail _ (.tail _ (.head _)))))
      have i6 : @Ne Nat du I := hne _ (.tail _ (.tail _ (.tail _ (.tail _ (.tail _ (.head _))))))
      have i7 : ∀ q ∈ acc, q.1 ≠ I := fun q hq => hne q (.tail _ (.tail _ (.tail _ (.tail _ (.tail _ (.tail _ hq))))))
      dsimp only at i1 i2 i3 i4 i5 i6
      obtain ⟨nm, hnm⟩ : ∃ nm, lawNames[i]? = some nm := ⟨_, List.getElem?_eq_getElem (l := lawNames) hi6⟩
      k_steps
      show wpAny _ _ _ _ _ _
      (rename News _ _ _ _ => N5)
      have N6 := newsS N5 (fun p hp => List.Mem.tail _ hp)
      clear N5
      k_dflt (refine' storeX_C ?qF ?qN ?qc ?qU ?qd ?_ ?qa ?qb; (case qa => rfl); (case qb => rfl); (case qF => k_asm); (case qN => k_asm); (case qc => rfl); (case qU => k_updF); (case qd => k_asm); k_whole; intro h' o' F' N' d'; (try dsimp only at N'); (try k_sweep))
      k_steps
      show wpAny _ _ _ _ _ _
      (rename Fr _ _ _ _ => F2)
      refine LCt.ListComp_T (F₀ := F2) (cl := [(Str.ofString "draw", _)]) (by with_unfolding_all rfl) (by decide) (by rfl) (by decide) (by rfl) ?_
      k_steps
      show LCt.CompSrcT _ _ _ _ _ _ _ _ _ _ _ _ _ _ _
      refine LCt.CompSrcT.range (n := i) (by rfl) (by k_asm) (by k_asm) (by assumption) (small_one (by omega) (by omega) (by omega) (by omega)) (by rw [rangeSize_nat]; omega) (by rw [sizeLine_eq]; omega) ?_
      · intro g'
        refine rest_S (fun j y => StrV (lawNames.getD j Str.empty) y) trivial ?_ ?_
        · rintro j v I2 oI2 C oC D ys m₂ h₂ tk₂ E' hj ⟨tv, rfl⟩ hC hx' F4 N4 off ne
          rw [Int.zero_add] at hx'
          obtain ⟨nj, hnj⟩ : ∃ nj, lawNames[j]? = some nj := ⟨_, List.getElem?_eq_getElem (l := lawNames) (Nat.lt_trans hj hi6)⟩
          have hj6 : j < 6 := Nat.lt_trans hj hi6
          try clear F2
          dsimp only
          k_steps
          · show StrV _ _
            rw [List.getD_eq_getElem?_getD, hnj]
            exact .of
          · (rename News _ _ _ _ => N5)
            exact ⟨_, _, rfl, by k_asm, fun p hp => N5 p (.tail _ hp)⟩
          · (rename News _ _ _ _ => N5)
            exact ⟨_, _, rfl, by k_asm, fun p hp => N5 p (.tail _ hp)⟩
        · intro js ys hjs hys D2 h3 tk3 F3 N3 off3
          try clear F2
          have hD2 := off1_mem off3
          have j0 : @Ne Nat I D2 := hD2 _ (.head _)
          have j1 : @Ne Nat dc D2 := hD2 _ (.tail _ (.head _))
          have j2 : @Ne Nat dh D2 := hD2 _ (.tail _ (.tail _ (.head _)))
          have j3 : @Ne Nat _ D2 := hD2 _ (.tail _ (.tail _ (.tail _ (.head _))))
          have j4 : @Ne Nat _ D2 := hD2 _ (.tail _ (.tail _ (.tail _ (.tail _ (.head _)))))
          have j5 : @Ne Nat _ D2 := hD2 _ (.tail _ (.tail _ (.tail _ (.tail _ (.tail _ (.head _))))))
          have j6 : @Ne Nat du D2 := hD2 _ (.tail _ (.tail _ (.tail _ (.tail _ (.tail _ (.tail _ (.head _)))))))
          have j7 : ∀ q ∈ acc, q.1 ≠ D2 := fun q hq => hD2 q (.tail _ (.tail _ (.tail _ (.tail _ (.tail _ (.tail _ (.tail _ hq)))))))
          dsimp only at j0 j1 j2 j3 j4 j5 j6
          clear hD2 off3
          have hst := All2.strs (f := fun j => lawNames.getD j Str.empty) hys
          have hv2 : valueAt (stored hk nm (.ref D2)) nm = some (.ref D2) := valueAt_stored _ _ _
          k_steps
          show wpAny _ _ _ _ _ _
          (rename Fr _ _ _ _ => F2)
          (rename News _ _ _ _ => N2)
          refine ifexp_join F2 N2 ?_ ?_
          · walk_at "eval IfExp"
            k_steps
            · (rename Fr _ _ _ _ => F5)
              (rename News _ _ _ _ => N5)
              exact ⟨_, _, [.str (Str.ofString "INT") _], [Str.ofString "INT"], _, _, rfl, rfl, F5, N5, .cons _ _ .nil, .inr rfl⟩
            · (rename Fr _ _ _ _ => F5)
              (rename News _ _ _ _ => N5)
              exact ⟨_, _, [], [], _, _, rfl, rfl, F5, N5, .nil, .inl rfl⟩
          · intro l4 k4 vs4 ts4 h4 tk4 F4 N4 hst4 hts4
            clear F2 N2
            have hyl : ys.length = js.length := by rw [hst.len_eq, List.length_map]
            have hyl4 : vs4.length ≤ 1 := by rw [hst4.len_eq]; rcases hts4 with rfl | rfl <;> simp
            have hjl : js.length ≤ i := by have := hjs.length_le; rwa [List.length_range] at this
            k_steps
            show wpAny _ _ _ _ _ _
            refine add_two (keep := _) F4 N4 (.tail _ (.head _)) (.head _) (fun p hp => .tail _ (.tail _ hp)) (by rw [sizeLine_eq]; omega) ?_
            intro D5 h5 F5 N5 hlt5
            clear F4 N4
            obtain ⟨n0, n1, n2, n3, n4, n5, n6, n7⟩ := eight (fun p hp => Nat.ne_of_lt (hlt5 p hp))
            dsimp only at n0 n1 n2 n3 n4 n5 n6
            clear hlt5 j0 j1 j2 j3 j4 j5 j6 j7 hys
            have z2 := stored_len hk nm (.ref D2)
            have hv3 : valueAt (stored (stored hk nm (.ref D2)) nm (.ref D5)) nm = some (.ref D5) := valueAt_stored _ _ _
            have hst5 := hst.append' hst4
            have hks : ∀ k ∈ picked js ++ ts4, k ∈ base8 ++ lawNames.take i := kids_in (Nat.le_of_lt hi6) hjs hts4
            have hkd : (picked js ++ ts4).Nodup := kids_nodup (Nat.le_of_lt hi6) hjs hts4
            have hkl := kids_len (Nat.le_of_lt hi6) hjs hts4
            have hGm1 := hGm
            obtain ⟨dns2, ls2, imp2, db2, lb2, oi2, ob2, ikv2, bkv2, kl2, hMm, _⟩ := hGm1
            have hMm2 := hMm
            obtain ⟨dm2, tm2, jm2, ons2, nkv2, kk3, hm1, hm2, _⟩ := hMm2
            k_steps
            show wpAny _ _ _ _ _ _
            (rename Fr _ _ _ _ => F6)
            (rename News _ _ _ _ => N6)
            refine LCg.ListComp_U (F₀ := F6) (cl := [(Str.ofString "classes", _)]) (by with_unfolding_all rfl) (by decide) (by rfl) (by decide) (by rfl) ?_
            k_steps
            show LCg.CompSrc _ _ _ _ _ _ _ _ _ _ _ _ _ _
            refine LCg.CompSrc.ledger (its := (ys ++ vs4).toArray) (by rfl) (by k_asm) (by k_asm) (by k_mem) (by rw [List.size_toArray, List.length_append, sizeLine_eq]; omega) ?_
            intro g6
            refine rest_U (fun j y => y = Value.ref (G.adr ((picked js ++ ts4).getD j Str.empty))) (.inr ⟨_, by k_mem, rfl, _, rfl⟩) ?_ ?_
            · rintro j v I3 oI3 C3 oC3 D3 ys3 m3 h6 tk6 E6 hj hv hC3 hx3 F7 N7 off ne
              obtain ⟨c, tc, rfl, hc⟩ := hst5.item j v (by simpa using hv)
              have hcn : c ∈ G.names := hGn ▸ hks c (List.mem_of_getElem? hc)
              have hvc := classes_at (f := G.adr) hcn
              try clear F6
              try clear N6
              dsimp only
              k_steps
              · show Value.ref (G.adr c) = Value.ref (G.adr ((picked js ++ ts4).getD j Str.empty))
                have hc' : (picked js ++ ts4)[j]? = some c := hc
                rw [List.getD_eq_getElem?_getD, hc']; rfl
              · exact ⟨_, _, rfl, by k_asm, by k_asm⟩
            · intro ys6 hys6 D6 h7 tk7 F7 N7 off7
              try clear F6
              try clear N6
              have hlen5 : (ys ++ vs4).toArray.size = (picked js ++ ts4).length := by rw [List.size_toArray, hst5.len_eq]; rfl
              have hvals : ys6 = (picked js ++ ts4).map fun k => Value.ref (G.adr k) := kids_vals (f := fun k => Value.ref (G.adr k)) hlen5 hys6
              subst hvals
              clear hys6
              have hD6 := off1_mem off7
              obtain ⟨q0, q1, q2, q3, q4, q5, q6, q7⟩ := eight (fun p hp => hD6 p (.tail _ hp))
              have q8 : @Ne Nat D5 D6 := hD6 _ (.head _)
              dsimp only at q0 q1 q2 q3 q4 q5 q6
              clear hD6 off7
              k_steps
              show wpAny _ _ _ _ _ _
              with_reducible show wpAny _ _ (call (Value.ref 212) _ _) _ _ _
              with_unfolding_all show wpAny _ _ (call (Value.ref _) [Value.ref _, Value.str _ _, Value.none, Value.int _ _] [(_, Value.ref _)]) _ _ _
              (rename Fr _ _ _ _ => F8)
              (rename News _ _ _ _ => N8)
              have N9 := front8 N8
              clear N8
              refine' nc_use ?B ?F ?X ?N ?T ?hk ?hM ?hD ?hne ?hkl ?hj ?hvl ?dd ?uu ?_
              case B => k_asm
              case F => k_asm
              case X => k_asm
              case N => exact N9
              case T => k_asm
              case hk => first | exact rfl | assumption
              case hM => exact hMm.mono (fun p hp => by repeat (first | exact hp | refine List.mem_cons_of_mem _ ?_))
              case hD => exact hodu'
              case hne => exact all8 (Ne.symm q6) (Ne.symm n6) (Ne.symm i6) w1 w2 w3 w4 w5 a6
              case hkl => exact Nat.le_trans hul (Nat.le_trans (Nat.le_of_lt hi6) (by decide))
              case hj => exact List.mem_cons_self
              case hvl => rw [List.length_map]; exact Nat.le_trans hkl (by decide)
              case dd => first | k_room | ktr_room
              case uu => first | k_units | ktr_units
              k_whole
              intro c8 dc8 li8 kl8 odu8 t8 j8 u8 v8 h8 tk8 F8' N8' hD8 hl1 hl2 hl3 hl4 hli
              have ndu : @Ne Nat li8 du := ne_list_dict N8' (.tail _ (.tail _ (.head _))) (.tail _ (.tail _ (.tail _ (.head _)))) hD8
              have f4 : Off6 D5 dc dh _ _ _ du := ⟨Ne.symm n1, Ne.symm n2, Ne.symm n3, Ne.symm n4, Ne.symm n5, Ne.symm n6⟩
              have f5 : Off6 D6 dc dh _ _ _ du := ⟨Ne.symm q1, Ne.symm q2, Ne.symm q3, Ne.symm q4, Ne.symm q5, Ne.symm q6⟩
              have f1 := off6_lt hl1 hl3
              have f2 := off6_lt hl2 hl4
              have f3 : Off6 li8 dc dh _ _ _ du ∧ @Ne Nat li8 I := hli.elim (fun e => by rw [e]; exact ⟨f5, Ne.symm q0⟩) fun h => off6_ne h ndu
              dsimp only at f1 f2 f3 f4
              have N10 := back8 N8'
              clear N8' hl1 hl2 hl3 hl4 hli f5 q0 q1 q2 q3 q4 q5 q6 q7 q8 ndu N9
              have hz := names_len hGn
              have hAll := all_of (D := dc) N10 (ne_cons w6 (ne_cons w7 (ne_cons w8 (ne_cons w9 (ne_cons (Ne.symm w1) (ne_cons f1.1.1 (ne_cons f2.1.1 (ne_cons f3.1.1 (ne_cons f4.1 a1)))))))))
              k_steps
              (rename Fr _ _ _ _ => F5)
              (rename News _ _ _ _ => N5)
              (rename Obj.IsDictOf _ _ (stored (List.map _ _) _ _) => hC5)
              (rename Obj.IsDictOf _ _ (stored (stored hk _ _) _ _) => hA5)
              refine TPost.next ⟨_, _, _, _, rfl, F5, N5, (fun p hp => nomatch hp), ?_, J2.step hGn hGok hGr hGd hGc hGm hheirs hhl hul hun hoffA hnm hks hkd hst5 hA5 hC5 hD8 f1.1 f2.1 f3.1 f4 ⟨_, by assumption⟩ rfl rfl rfl⟩
              exact ne_cons i1 (ne_cons i2 (ne_cons i3 (ne_cons i4 (ne_cons i5 (ne_cons i6 (ne_cons f1.2 (ne_cons f2.2 (ne_cons f3.2 (ne_cons (Ne.symm n0) i7)))))))))
          done
      done
    rintro m₁ nx h₁ tk₁ ⟨G, o2, odu', oh', oc', hk, uk, acc, rfl, hGn, hGok, hGr, hGd, hGc, hGm, hoh, hheirs, hhl, hoc, hodu', hul, hun, hoffA, ⟨v2, ho2⟩, hm1', hm2', hm3'⟩ F₁ N₁
    rw [ends3 hm1' hm2' hm3'] at F₁
    clear F9 N9 hR9 hm1 hm2 hoff hD273 hol hMade
    have hnd : G.names.Nodup := hGn ▸ all_nodup
    have hlen : G.names.length ≤ 20 := by rw [hGn]; exact Nat.le_trans all_len (by decide)
    have hob9 : Str.ofString "OBJECT" ∈ nine := by decide +kernel
    have hno9 := hun _ hob9
    have hGm1 := hGm
    obtain ⟨dns2, ls2, imp2, db2, lb2, oi2, ob2, ikv2, bkv2, kl2, hMm, _⟩ := hGm1
    obtain ⟨dm2, tm2, jm2, ons2, nkv2, kk3, hm1, hm2, _⟩ := hMm
    k_steps
    show wpAny _ _ _ _ _ _
    (rename Fr _ _ _ _ => F2)
    (rename News _ _ _ _ => N2)
    refine loop_dict (knd := PySem.strKind _ _) (kvs := G.names.map fun n => (n, Value.ref (G.adr n))) (fun _ m nx => nx = (dc, oc') :: (dh, oh') :: _ :: (_, o2) :: _ :: (du, odu') :: acc ∧ m (Str.ofString "made") = some (.ref mm) ∧ m (Str.ofString "heirs") = some (.ref dh)) rfl (.head _) hoc lo_dc F2 N2 ⟨rfl, rfl, rfl⟩ ?_ ?_
    · rintro I i k x9 v9 m₃ nx3 h3 tk3 oI hk9 hv9 hl3 hne ⟨rfl, e1, e2⟩ F3 N3
      rw [ends2 e1 e2] at F3
      clear F2 N2
      obtain ⟨t9, rfl⟩ := Value.isStrOf_shape hv9
      obtain ⟨hkn, rfl⟩ := map_get hk9
      have hvc := classes_at (f := G.adr) hkn
      k_steps
      show wpAny _ _ _ _ _ _
      k_dflt (refine' newDict_K ?k1 ?k2 (TopRead.nolimit (by k_asm)) ?_; (case k1 => k_asm); (case k2 => k_asm); k_whole; intro df h' of F' N' l3 lo_df hs_df fs' hi' fi'; (try k_sweep))
      k_lt l3
      k_steps
      show wpAny _ _ _ _ _ _
      (rename Fr _ _ _ _ => F2)
      (rename News _ _ _ _ => N2)
      have hO := obj_of N2 hs_df lo_df
      refine loop_dict (knd := PySem.strKind _ _) (kvs := G.names.map fun n => (n, Value.ref (G.adr n))) (fun _ m nx => nx = (_, instObj 80 _) :: (_, _) :: (df, of) :: (I, oI) :: (dc, oc') :: (dh, oh') :: _ :: (_, o2) :: _ :: (du, odu') :: acc ∧ m (Str.ofString "made") = some (.ref mm) ∧ m (Str.ofString "heirs") = some (.ref dh) ∧ m (Str.ofString "name") = some (.str k t9) ∧ m (Str.ofString "one") = some _) rfl (by k_mem) hoc lo_dc F2 N2 ⟨rfl, rfl, rfl, rfl, rfl⟩ ?_ ?_
      · rintro I4 j k4 x4 v4 m4 nx4 h4 tk4 oI4 hk4 hv4 hl4 hne4 ⟨rfl, e1, e2, e3, e4⟩ F4 N4
        rw [ends4 e1 e2 e3 e4] at F4
        clear F2 N2
        obtain ⟨t4, rfl⟩ := Value.isStrOf_shape hv4
        obtain ⟨hkn4, rfl⟩ := map_get hk4
        have hvc4 := classes_at (f := G.adr) hkn4
        k_steps
        show wpAny _ _ _ _ _ _
        refine' isi_use hGok hkn hkn4 ?B ?F ?X ?N ?T ?hk ?hC ?hO ?dd ?uu ?_
        case B => k_asm
        case F => k_asm
        case X => k_asm
        case N => k_asm
        case T => k_asm
        case hk => first | exact rfl | assumption
        case hC => exact hGc.mono (fun p hp => by repeat (first | exact hp | refine List.mem_cons_of_mem _ ?_))
        case hO => exact hO.mono (fun p hp => .tail _ hp)
        case dd => first | k_room | ktr_room
        case uu => first | k_units | ktr_units
        k_whole
        intro b4 h' tk' hb4 F' N'
        try clear F4 N4
        k_steps
        show wpAny _ _ _ _ _ _
        refine' he_use hGok hnd hlen hGd hkn4 ?B ?F ?X ?N ?T ?hk ?HI ?dd ?uu ?_
        case B => k_asm
        case F => k_asm
        case X => k_asm
        case N => k_asm
        case T => k_asm
        case hk => first | exact rfl | assumption
        case HI => exact heirs_in (by k_mem) hoh lo_dh hheirs (fun p hp => by repeat (first | exact hp | refine List.mem_cons_of_mem _ ?_))
        case dd => first | k_room | ktr_room
        case uu => first | k_units | ktr_units
        k_whole
        intro D4 ys4 lk4 fs4 h' tk' hys4 hfs4 F' N' hoff4
        have hbb := same_bool hb4 (hfs4 k)
        k_steps
        · (rename (_ != _) = true => hne9)
          rw [hbb, bne_self_eq_false] at hne9
          cases hne9
        · (rename Fr _ _ _ _ => F5)
          (rename News _ _ _ _ => N5)
          exact TPost.next ⟨_, _, _, _, rfl, F5, newsS N5 (fun p hp => .tail _ hp), (fun p hp => by rw [List.mem_singleton.mp hp]; exact hl4), hne4, rfl, rfl, rfl, rfl, rfl⟩
      · rintro m4 nx4 h4 tk4 hl4 ⟨rfl, e1, e2, e3, e4⟩ F4 N4
        rw [ends4 e1 e2 e3 e4] at F4
        clear F2 N2
        k_steps
        show wpAny _ _ _ _ _ _
        refine' ob_use ?B ?F ?X ?N ?T ?hk ?hM ?dd ?uu ?_
        case B => k_asm
        case F => k_asm
        case X => k_asm
        case N => k_asm
        case T => k_asm
        case hk => first | exact rfl | assumption
        case hM => exact hGm.mono (fun p hp => by repeat (first | exact hp | refine List.mem_cons_of_mem _ ?_))
        case dd => first | k_room | ktr_room
        case uu => first | k_units | ktr_units
        k_whole
        intro h' tk' F' N'
        try clear F4 N4
        k_steps
        (rename Fr _ _ _ _ => F5)
        (rename News _ _ _ _ => N5)
        exact TPost.next ⟨_, _, _, _, rfl, F5, newsS N5 (fun p hp => .tail _ (.tail _ (.tail _ hp))), (fun p hp => by rw [List.mem_singleton.mp hp]; exact hl3), hne, rfl, rfl, rfl⟩
    · rintro m₃ nx3 h3 tk3 hl3 ⟨rfl, e1, e2⟩ F3 N3
      rw [ends2 e1 e2] at F3
      clear F2 N2
      k_steps
      show wpAny _ _ _ _ _ _
      (rename Fr _ _ _ _ => F2)
      (rename News _ _ _ _ => N2)
      refine loop_tup (vs := [Value.int 5 _, Value.str (Str.ofString "A") _, Value.none, Value.ref _]) (nn := _) (fun _ m nx => ∃ o1, nx = (_, _) :: (_, _) :: (dc, oc') :: (dh, oh') :: (_, o1) :: (_, o2) :: _ :: (du, odu') :: acc ∧ (∃ v, o1.data = .cell v) ∧ m (Str.ofString "made") = some (.ref mm)) rfl (.head _) rfl rfl F2 N2 ⟨_, rfl, ⟨_, by assumption⟩, rfl⟩ ?_ ?_
      · rintro I i v m₁ nx h₁ tk₁ oI hv hl hne ⟨o1', rfl, ⟨v1, ho1⟩, e1⟩ F₁ N₁
        rw [ends1 e1] at F₁
        clear F2 N2
        have b0 : @Ne Nat I _ := Ne.symm (hne _ (.tail _ (.tail _ (.tail _ (.tail _ (.head _))))))
        have b1 := ne_seq_cell N₁ (.tail _ (.head _)) (.tail _ (.tail _ (.tail _ (.tail _ (.tail _ (.head _)))))) rfl ho1
        have b2 := ne_seq_cell N₁ (.tail _ (.tail _ (.head _))) (.tail _ (.tail _ (.tail _ (.tail _ (.tail _ (.head _)))))) rfl ho1
        have b3 : @Ne Nat dc _ := Ne.symm (Nat.ne_of_lt (Nat.lt_trans k1 (show @LT.lt Nat _ du dc by omega)))
        have b4 : @Ne Nat dh _ := Ne.symm (Nat.ne_of_lt (Nat.lt_trans k1 (show @LT.lt Nat _ du dh by omega)))
        have b5 : @Ne Nat du _ := Ne.symm (Nat.ne_of_lt k1)
        have a3 : ∀ q ∈ acc, q.1 ≠ _ := fun q hq => (hoffA q hq).2.2.1
        dsimp only at b0 a3
        k_steps
        show wpAny _ _ _ _ _ _
        (rename Fr _ _ _ _ => F6)
        (rename News _ _ _ _ => N6)
        refine ListComp_TS (F₀ := F6) (cl := _) (by with_unfolding_all rfl) (by decide) (by rfl) (by decide) (by rfl) ?_
        k_steps
        show SrcTD _ _ _ _ _ _ _ _ _ _ _ _ _ _ _
        refine ⟨dc, oc', _, _, rfl, rfl, by k_asm, by k_asm, by k_mem, hoc, lo_dc, by rw [sizeLine_eq]; exact Nat.le_trans (names_len hGn) (by decide), ?_⟩
        rintro s₂ ⟨g6, rfl⟩
        refine rest_T (fun _ => false) (fun _ _ => True) (by k_mem) ?_ ?_
        · rintro j v3 I3 oI3 C3 oC3 D3 ys3 m3 h6 tk6 E6 hj ⟨k, x', hk3, hv3⟩ hC3 hx3 F7 N7 off ne
          obtain ⟨t3, rfl⟩ := Value.isStrOf_shape hv3
          obtain ⟨hkn, rfl⟩ := map_get hk3
          have hvc := classes_at (f := G.adr) hkn
          try clear F6
          try clear N6
          dsimp only
          k_steps
          show wpAny _ _ _ _ _ _
          refine' pl_use hGok hkn ?B ?F ?X ?N ?T ?hk ?hC ?hO ?dd ?uu ?_
          case B => k_asm
          case F => k_asm
          case X => k_asm
          case N => k_asm
          case T => k_asm
          case hk => first | exact rfl | assumption
          case hC => exact hGc.mono (fun p hp => by repeat (first | exact hp | refine List.mem_cons_of_mem _ ?_))
          case hO => exact plain4 hv (by k_mem)
          case dd => first | k_room | ktr_room
          case uu => first | k_units | ktr_units
          k_whole
          intro h' tk' F' N'
          try clear F7 N7
          k_steps
          exact ⟨_, _, rfl, by k_asm, by k_asm⟩
        · intro ys6 hys6 D6 h7 tk7 F7 N7 off7
          try clear F6
          try clear N6
          have e6 := none_kept hys6
          subst e6
          k_steps
          show wpAny _ _ _ _ _ _
          refine' ob_use ?B ?F ?X ?N ?T ?hk ?hM ?dd ?uu ?_
          case B => k_asm
          case F => k_asm
          case X => k_asm
          case N => k_asm
          case T => k_asm
          case hk => first | exact rfl | assumption
          case hM => exact hGm.mono (fun p hp => by repeat (first | exact hp | refine List.mem_cons_of_mem _ ?_))
          case dd => first | k_room | ktr_room
          case uu => first | k_units | ktr_units
          k_whole
          intro h' tk' F' N'
          try clear F7 N7
          k_steps
          (rename Fr _ _ _ _ => F5)
          (rename News _ _ _ _ => N5)
          exact TPost.next ⟨_, _, _, _, rfl, F5, newsS N5 (fun p hp => .tail _ (.tail _ hp)), (fun p hp => by rw [List.mem_singleton.mp hp]; exact .head _), off_upd hne, _, rfl, ⟨_, by assumption⟩, rfl⟩
      · rintro m₁ nx h₁ tk₁ hl ⟨o1', rfl, ⟨v1, ho1⟩, e1⟩ F₁ N₁
        rw [ends1 e1] at F₁
        clear F2 N2
        k_steps
    done)
end Mine
end
theorem PySem.Challenge.cw_ez0375_01_holds : PySem.Challenge.rw_ez0375_01.Holds := by
  exact Mine.law_holds
