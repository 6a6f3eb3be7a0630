import PyProof.Rows.All
import Wide.All
import OpenK.AllK
import Wide.FinOn
import Lean
import PySem.Challenge.RW_ik0062_01
set_option Elab.async false
set_option maxRecDepth 100000
set_option maxHeartbeats 0
set_option linter.unusedVariables false
namespace Mine
open PySem PySem.W PySem.Calls PyProof.Rows
/-! text D1 -/
section
open PySem.Builtin

theorem owner_deque : Manifest.owners.lookup (String.ofList ['e','u','q','e','d','.','s','n','o','i','t','c','e','l','l','o','c'].reverse) = some Manifest.sig_collections_deque := by kernel_rfl
theorem dq_noBool : typeLookup (.type "collections.deque") "__bool__" = pure none := by rw [typeLookup_type, builtinLookup_eq_fast]; kernel_rfl
theorem slot_dq_len : Slot "collections.deque" "__len__" "collections.deque.__len__" :=
  .of (owner := "collections.deque") (n := "__len__") (by rw [typeLookup_type, builtinLookup_eq_fast]; kernel_rfl) (by decide +kernel) (by decide +kernel) (by decide +kernel)
    (by first | exact .inl (by decide +kernel) | exact .inr (by decide +kernel)) (by rw [isSubtype_type]; kernel_rfl)
theorem slot_dq_init : Slot "collections.deque" "__init__" "collections.deque.__init__" :=
  .of (owner := "collections.deque") (n := "__init__") (by rw [typeLookup_type, builtinLookup_eq_fast]; kernel_rfl) (by decide +kernel) (by decide +kernel) (by decide +kernel)
    (by first | exact .inl (by decide +kernel) | exact .inr (by decide +kernel)) (by rw [isSubtype_type]; kernel_rfl)
theorem entry_dq_len : entryFor table "collections.deque.__len__" = some Builtin.«collections.deque.__len__» := entryFor_of_tree (by kernel_rfl)
theorem entry_dq_init : entryFor table "collections.deque.__init__" = some Builtin.«collections.deque.__init__» := entryFor_of_tree (by kernel_rfl)
theorem entry_dq_new : entryFor table "collections.deque.__new__" = some Builtin.«collections.deque.__new__» := entryFor_of_tree (by kernel_rfl)
theorem args_dq_len (a : Value) : argsOk "collections.deque.__len__" ⟨[a], []⟩ := by
  unfold argsOk; rw [signature?_of (id := "collections.deque.__len__") (n := ['_', '_', 'n', 'e', 'l', '_', '_']) (o := ['e','u','q','e','d','.','s','n','o','i','t','c','e','l','l','o','c']) (by kernel_rfl) owner_deque]; kernel_rfl
theorem args_dq_init (a : Value) : argsOk "collections.deque.__init__" ⟨[a], []⟩ := by
  unfold argsOk; rw [signature?_of (id := "collections.deque.__init__") (n := ['_', '_', 't','i','n','i', '_', '_']) (o := ['e','u','q','e','d','.','s','n','o','i','t','c','e','l','l','o','c']) (by kernel_rfl) owner_deque]; kernel_rfl

noncomputable def dqO : Obj := { cls := .type "collections.deque", data := .fields #[.none, .int 0 0] }
section
variable {prog : Program} {w : World} {A : Around} {E : Value → Shared → Prop} {s : Shared}
theorem dq_len_body {a : Addr} {Q : Value → Shared → Prop} (ho : s.heap.get? a = some dqO) (h : Q (.int 0 (s.toks + 1)) { s with toks := s.toks + 1 + 1 }) :
    wpAny (model prog w) A (Builtin.«len» ⟨[.ref a], []⟩) (fun fin s' => ∃ r, fin = .done (.ret r) ∧ Q r s') E s := by
  have hT : s.TypeIs (.ref a) "collections.deque" := ⟨_, ho, rfl⟩
  unfold Builtin.«len»
  refine wpAny_bind (m := oneArg "len" _) (wpAny_pure ?_)
  refine wpAny_bind (m := callSpecial? (.ref a) (Str.ofString "__len__")) (wpAny_callSpecial?_slot (name := Str.ofString "__len__") hT slot_dq_len
    (wpAny_call_entry slot_dq_len hT entry_dq_len ?_ (args_dq_len _)))
  show wpAny _ _ (do retInt (← Deque.size (← slotArgs "__len__" 0 ⟨[.ref a], []⟩).1)) _ _ s
  refine wpAny_bind (m := slotArgs "__len__" 0 _) (wpAny_pure ?_)
  unfold Deque.size
  refine wpAny_bind (wpAny_bind (m := fieldsOf (.ref a)) (by
    unfold fieldsOf
    refine wpAny_bind (wpAny_load ho ?_)
    refine wpAny_pure (wpAny_pure ?_)
    show wpAny _ _ (retInt 0) _ _ s
    refine wpAny_bind (wpAny_mkInt (wpAny_pure ⟨_, rfl, ?_⟩))
    refine wpAny_bind (wpAny_holding (wpAny_pure ?_))
    refine wpAny_bind (wpAny_letGo ?_)
    show wpAny _ _ (if (0 : Int) < 0 then _ else _) _ _ _
    rw [if_neg (by omega)]
    show wpAny _ _ (if (0 : Int) ≥ 2 ^ 63 then _ else _) _ _ _
    rw [if_neg (by omega)]
    exact wpAny_bind (wpAny_mkInt (wpAny_pure ⟨_, rfl, h⟩))))
theorem dq_truthy {a : Addr} {Q : Bool → Shared → Prop} (ho : s.heap.get? a = some dqO) (h : Q false { s with toks := s.toks + 1 + 1 }) : wpAny (model prog w) A (truthy (.ref a)) Q E s := by
  have hT : s.TypeIs (.ref a) "collections.deque" := ⟨_, ho, rfl⟩
  have key : wpAny (model prog w) A (runValue (.builtin "len" ⟨[.ref a], []⟩)) (fun r s' => r = .int 0 (s.toks + 1) ∧ Q false s') E s := by
    refine wpAny_runValue (codeAny_builtin entry_len ?_)
    rw [Around.under_plainId plain_len _]
    exact wpAny_mono (dq_len_body (Q := fun r s' => r = .int 0 (s.toks + 1) ∧ Q false s') ho ⟨rfl, h⟩)
      (fun fin s' h' => by obtain ⟨r, rfl, hq⟩ := h'; exact hq) fun _ _ e => e
  unfold truthy
  first
    | refine wpAny_bind (wpAny_callSpecial?_none (name := Str.ofString "__bool__") hT dq_noBool ?_)
    | refine wpAny_bind (wpAny_pure (wpAny_bind (wpAny_callSpecial?_none (name := Str.ofString "__bool__") hT dq_noBool ?_)))
  first
    | refine wpAny_bind (wpAny_specialOf (name := Str.ofString "__len__") hT slot_dq_len.lookup ?_)
    | refine wpAny_bind (wpAny_pure (wpAny_bind (wpAny_specialOf (name := Str.ofString "__len__") hT slot_dq_len.lookup ?_)))
  first
    | exact wpAny_bind (wpAny_mono key (fun r s' h' => by obtain ⟨rfl, hq⟩ := h'; exact wpAny_pure hq) fun _ _ e => e)
    | exact wpAny_bind (wpAny_pure (wpAny_bind (wpAny_mono key (fun r s' h' => by obtain ⟨rfl, hq⟩ := h'; exact wpAny_pure hq) fun _ _ e => e)))
end
theorem mro_dq : mroOf (.type "collections.deque") = pure [.type "collections.deque", .type "object"] := by rw [mroOf_type]; kernel_rfl
theorem look_dq_new : typeLookup (.type "collections.deque") "__new__" = pure (some (.builtin "collections.deque.__new__")) := by rw [typeLookup_type, builtinLookup_eq_fast]; kernel_rfl
theorem sub_dq : isSubtype (.type "collections.deque") (.type "collections.deque") = pure true := by rw [isSubtype_type]; kernel_rfl
theorem called_dq : TypeCalled "collections.deque" "collections.deque.__new__" "collections.deque.__init__" :=
  ⟨by decide +kernel, by decide +kernel, ⟨_, _, mro_dq⟩, madeBy_type mro_dq look_dq_new (by decide +kernel), by decide +kernel, sub_dq, slot_dq_init⟩
theorem tcall_dq : checkTypeCall "collections.deque" ⟨[], []⟩ = pure () := by kernel_rfl
theorem ncall_dq : checkBuiltinCall "collections.deque.__new__" ⟨[.type "collections.deque"], []⟩ = pure () := by kernel_rfl
theorem plain_dq_new : plainId "collections.deque.__new__" = true := by decide +kernel
section
variable {prog : Program} {w : World} {A : Around} {E : Value → Shared → Prop} {s : Shared}
theorem dq_new_body {Q : Value → Shared → Prop} (h : Q (.ref s.heap.objs.size) { s with heap := s.heap.push dqO }) :
    wpAny (model prog w) A (Builtin.«collections.deque.__new__» ⟨[.type "collections.deque"], []⟩) (fun fin s' => ∃ r, fin = .done (.ret r) ∧ Q r s') E s := by
  have e : Deque.newArgs Deque.ty ⟨[.type "collections.deque"], []⟩ = pure (.type "collections.deque", []) := by
    show (isSubtype (.type "collections.deque") (.type "collections.deque") >>= _) = _
    rw [sub_dq]; rfl
  show wpAny _ _ (Deque.newArgs Deque.ty ⟨[.type "collections.deque"], []⟩ >>= _) _ _ _
  rw [e]
  refine wpAny_bind (wpAny_pure ?_)
  show wpAny _ _ (Deque.new (.type "collections.deque") #[] none >>= _) _ _ _
  unfold Deque.new
  refine wpAny_bind ?_
  rw [show typeHasDict (.type "collections.deque") = false from by decide +kernel]
  show wpAny _ _ (newObj (.type "collections.deque") (.fields #[.none, rawInt 0]) none) _ _ _
  exact wpAny_newObj_type (wpAny_pure ⟨_, rfl, h⟩) (by exact Nat.le_of_ble_eq_true (by kernel_rfl))

theorem upd_same {h : Heap} {a : Addr} {o : Obj} {f : Obj → Obj} (ho : h.get? a = some o) (hf : f o = o) (hz : o.isFreed = false) : ∀ b, (h.update a f).get? b = h.get? b := by
  intro b
  by_cases hb : b = a
  · subst hb
    rw [Heap.get?_update_self f ho (by rw [hf]; exact hz), ho, hf]
  · exact Heap.get?_update_other h f (Ne.symm hb)
theorem dq_init_body {a : Addr} {Q : Value → Shared → Prop} (ho : s.heap.get? a = some dqO) (h : Q .none { s with heap := s.heap.update a (Obj.mapFields (·.setIfInBounds 0 .none)) }) :
    wpAny (model prog w) A (Builtin.«collections.deque.__init__» ⟨[.ref a], []⟩) (fun fin s' => ∃ r, fin = .done (.ret r) ∧ Q r s') E s := by
  show wpAny _ _ (do setField (.ref a) 0 .none; Deque.clear (.ref a); ret .none) _ _ _
  have ho' : (s.heap.update a (Obj.mapFields (·.setIfInBounds 0 .none))).get? a = some dqO := by rw [upd_same ho rfl rfl]; exact ho
  refine wpAny_bind ?_
  show wpAny _ _ (updateField a 0 .none) _ _ _
  unfold updateField
  refine wpAny_bind (wpAny_load ho ?_)
  show wpAny _ _ (update a _) _ _ _
  refine wpAny_update ho ?_
  refine wpAny_bind ?_
  unfold Deque.clear Deque.items fieldsOf
  refine wpAny_bind (wpAny_bind (wpAny_bind (wpAny_load ho' ?_)))
  refine wpAny_pure (wpAny_pure ?_)
  exact wpAny_pure (wpAny_pure ⟨_, rfl, h⟩)

theorem dq_make {h₀ : Heap} {L : Addr} {m : Str → Option Value} {news : List (Addr × Obj)} {Q : Value → Shared → Prop} (F : Fr h₀ L s.heap m) (N : News h₀ L s.heap news)
    (h : ∀ h', Fr h₀ L h' m → News h₀ L h' ((s.heap.objs.size, dqO) :: news) → Q (.ref s.heap.objs.size) { s with heap := h' }) :
    wpAny (model prog w) A (call (.type "collections.deque") []) Q E s := by
  have Fp := F.push (o := dqO)
  have Np := N.push F dqO
  refine callType_codes (Q₁ := fun obj s₁ => obj = .ref s.heap.objs.size ∧ s₁ = { s with heap := s.heap.push dqO }) called_dq tcall_dq entry_dq_init ?_ ?_
  · refine codeAny_of_tree ?_
    show wpAny _ A.in1.in1 (do checkBuiltinCall "collections.deque.__new__" ⟨[.type "collections.deque"], []⟩; again (.builtin "collections.deque.__new__" ⟨[.type "collections.deque"], []⟩)) _ _ s
    refine wpAny_bind (wpAny_of_eq ncall_dq (wpAny_pure ⟨plainId_quiet plain_dq_new _, codeAny_builtin entry_dq_new ?_⟩))
    rw [Around.under_plainId plain_dq_new _]
    refine wpAny_mono (dq_new_body (Q := fun obj s₁ => obj = .ref s.heap.objs.size ∧ s₁ = { s with heap := s.heap.push dqO }) ⟨rfl, rfl⟩) (fun fin s' ⟨r, e, hq⟩ => ?_) fun _ _ e => e
    subst e
    exact hq
  · rintro obj s₁ ⟨rfl, rfl⟩
    have ho : (s.heap.push dqO).get? s.heap.objs.size = some dqO := (Np _ (List.mem_cons_self ..)).1
    refine ⟨⟨_, ho, rfl⟩, args_dq_init _, ?_⟩
    refine wpAny_mono (dq_init_body (s := { s with heap := s.heap.push dqO }) (Q := fun r s₂ => r = .none ∧ Q (.ref s.heap.objs.size) s₂) ho ⟨rfl, ?_⟩) (fun fin s' ⟨r, e, hq⟩ => ?_) fun _ _ e => e
    · have hs := upd_same (f := Obj.mapFields (·.setIfInBounds 0 .none)) ho rfl rfl
      have hz : ((s.heap.push dqO).update s.heap.objs.size (Obj.mapFields (·.setIfInBounds 0 .none))).objs.size = (s.heap.push dqO).objs.size := by simp [Heap.update]
      have hL : L ≠ s.heap.objs.size := Nat.ne_of_lt F.ns.lt
      refine h _ ⟨Fp.ns.sameBut ⟨hz, fun b _ => hs b⟩ hL, fun b o e => (hs b).trans (Fp.keep b o e), Fp.above⟩ fun p hp => ?_
      exact ⟨(hs _).trans (Np p hp).1, (Np p hp).2⟩
    · subst e; exact hq
end

end
/-! text D3 -/
section
open PySem.Builtin

/-! a list's __contains__, bound -/
theorem lk_list_contains : typeLookup (.type "list") "__contains__" = pure (some (.builtin "list.__contains__")) := by rw [typeLookup_type, builtinLookup_eq_fast]; kernel_rfl
theorem typeOf_lc : typeOf (.builtin "list.__contains__") = pure (.type "wrapper_descriptor") := by show builtinType _ = _; rw [builtinType_eq_fast]; kernel_rfl
theorem slot_md_get : Slot "wrapper_descriptor" "__get__" "wrapper_descriptor.__get__" :=
  .of (owner := "wrapper_descriptor") (n := "__get__") (by rw [typeLookup_type, builtinLookup_eq_fast]; kernel_rfl) (by decide +kernel) (by decide +kernel) (by decide +kernel)
    (by first | exact .inl (by decide +kernel) | exact .inr (by decide +kernel)) (by rw [isSubtype_type]; kernel_rfl)
theorem md_noset : typeLookup (.type "wrapper_descriptor") "__set__" = pure none := by rw [typeLookup_type, builtinLookup_eq_fast]; kernel_rfl
theorem md_nodel : typeLookup (.type "wrapper_descriptor") "__delete__" = pure none := by rw [typeLookup_type, builtinLookup_eq_fast]; kernel_rfl
theorem entry_md_get : entryFor table "wrapper_descriptor.__get__" = some Builtin.«wrapper_descriptor.__get__» := entryFor_of_tree (by kernel_rfl)
theorem args_md_get (a b c : Value) : argsOk "wrapper_descriptor.__get__" ⟨[a, b, c], []⟩ := by unfold argsOk; kernel_rfl
theorem nac_lc : (kfb_private% "nameAndClass") (Value.builtin "list.__contains__") = pure ((Str.ofString "__contains__"), Value.type "list") := by kernel_rfl
noncomputable def lcO (l : Addr) : Obj := { cls := .type "method-wrapper", data := .fields #[.builtin "list.__contains__", .ref l] }
section
variable {prog : Program} {w : World} {A : Around} {E : Value → Shared → Prop} {h : Heap} {g : Array GenState} {d : Drawn} {t : Nat} {os : OsState} {a : Addr} {o : Obj}
theorem sub_ll : isSubtype (.type "list") (.type "list") = pure true := by rw [isSubtype_type]; kernel_rfl
theorem lc_get {R : Result → Shared → Prop} (hx : h.get? a = some o) (hc : o.cls = .type "list") (hq : R (.ok (.ret (.ref h.objs.size))) ⟨h.push (lcO a), g, d, t, os⟩) :
    codeAny (model prog w) A (.call (.builtin "wrapper_descriptor.__get__") ⟨[.builtin "list.__contains__", .ref a, .type "list"], []⟩) R ⟨h, g, d, t, os⟩ := by
  have hT : (⟨h, g, d, t, os⟩ : Shared).TypeIs (.ref a) "list" := ⟨_, hx, hc⟩
  have hT5 : (⟨h, g, d, t, os⟩ : Shared).TypeIs (.builtin "list.__contains__") "wrapper_descriptor" := typeOf_lc
  have f8 := sub_ll
  refine codeAny_call_builtin slot_md_get.plain entry_md_get (slot_md_get.check _ _ _ _ _ _ _ _ hT5 (args_md_get _ _ _) ?_)
  unfold Builtin.«wrapper_descriptor.__get__»
  refine wpAny_bind (wpAny_of_eq (a := (.builtin "list.__contains__", some (.ref a), some (.type "list"))) (by first | rfl | kernel_rfl) ?_)
  show wpAny _ _ ((kfb_private% "checkInstance") (.builtin "list.__contains__") (.ref a) >>= fun _ => _) _ _ _
  refine wpAny_bind ?_
  show wpAny _ _ ((kfb_private% "nameAndClass") (.builtin "list.__contains__") >>= _) _ _ _
  rw [nac_lc]
  refine (wpAny_bind (wpAny_pure (wpAny_bind (wpAny_isInstance (T := "list") hT f8 ?_))))
  rw [if_neg (by decide)]
  exact wpAny_pure (wpAny_bind (wpAny_newObj_type (wpAny_pure hq)))

theorem lc_entry {tk : Tok} {Q : Fin → Shared → Prop} (hx : h.get? a = some o) (hc : o.cls = .type "list") (hdat : ∃ xs n, o.data = .seq xs n) (hd : o.dict = none) (hq : Q (.done (.ret (.ref h.objs.size))) ⟨h.push (lcO a), g, d, t, os⟩) :
    wpAny (model prog w) A (Builtin.«object.__getattribute__» ⟨[.ref a, .str "__contains__" tk], []⟩) Q E ⟨h, g, d, t, os⟩ := by
  obtain ⟨c, dct, dat, sl⟩ := o
  obtain ⟨xs, n, hdat⟩ := hdat
  simp only at hc hdat hd
  subst hc hdat hd
  have hT : (⟨h, g, d, t, os⟩ : Shared).TypeIs (.ref a) "list" := ⟨_, hx, rfl⟩
  have hT5 : (⟨h, g, d, t, os⟩ : Shared).TypeIs (.builtin "list.__contains__") "wrapper_descriptor" := typeOf_lc
  have f4 := lk_list_contains
  have f5 := typeOf_lc
  have f6 := slot_md_get.lookup
  have f7 := md_noset
  have f8 := md_nodel
  repeat (any_goals (first | assumption | wp_step))
  refine lc_get hx rfl ?_
  exact wpAny_pure hq

theorem lc_call {tk : Tok} {R : Result → Shared → Prop} (hx : h.get? a = some o) (hc : o.cls = .type "list") (hdat : ∃ xs n, o.data = .seq xs n) (hd : o.dict = none) (hq : R (.ok (.ret (.ref h.objs.size))) ⟨h.push (lcO a), g, d, t, os⟩) :
    codeAny (model prog w) A (.call (.builtin "list.__getattribute__") ⟨[.ref a, .str "__contains__" tk], []⟩) R ⟨h, g, d, t, os⟩ :=
  codeAny_call_builtin F.slot_list_getattribute.plain F.entry_list_ga (F.slot_list_getattribute.check _ _ _ _ _ _ _ _ (show (⟨h, g, d, t, os⟩ : Shared).TypeIs (.ref a) "list" from ⟨_, hx, hc⟩) (F.args_list_getattribute_2 _ _) (lc_entry hx hc hdat hd hq))

theorem lc_attr {Q : Value → Shared → Prop} (hx : h.get? a = some o) (hc : o.cls = .type "list") (hdat : ∃ xs n, o.data = .seq xs n) (hd : o.dict = none) (hq : Q (.ref h.objs.size) ⟨h.push (lcO a), g, d, t + 1, os⟩) :
    wpAny (model prog w) A (getAttr (.ref a) "__contains__" true) Q E ⟨h, g, d, t, os⟩ := by
  have hT : ∀ t', (⟨h, g, d, t', os⟩ : Shared).TypeIs (.ref a) "list" := fun _ => ⟨_, hx, hc⟩
  have f2 := F.slot_list_getattribute.lookup
  have f3 := F.slot_list_getattribute.bind (.ref a)
  unfold getAttr getAttrBy
  refine wpAny_bind (wpAny_mkText ?_)
  have hT := hT (t + 1)
  repeat (any_goals (first | assumption | wp_step))
  refine lc_call hx hc hdat hd ?_
  show wpAny _ _ (handedOut (.ref _)) _ _ _
  exact wpAny_pure hq
end

section
variable {prog : Program} {w : World} {A : Around} {E : Value → Shared → Prop} {s : Shared} {a x : Addr} {o : Obj}
theorem check_lc {v : Value} : checkBoundCall "list.__contains__" ⟨[.ref a, v], []⟩ = pure () := by first | rfl | kernel_rfl
theorem lc_entryf : entryFor table "list.__contains__" = some Builtin.«list.__contains__» := F.entry_list_contains
theorem lc_quiet (as : Args) : (Code.builtin "list.__contains__" as).quiet = true := Code.quiet_builtin _ (by decide +kernel)
theorem lc_bound {v : Value} {vs : Array Value} {n : Nat} {e : Value → Bool} {Q : Value → Shared → Prop} (ho : s.heap.get? x = some (lcO a)) (hl : s.heap.get? a = some ⟨.type "list", none, .seq vs n, #[]⟩)
    (he : ∀ y, y ∈ vs → MeetsSeq.EqGives y v (e y)) (h : Q (.bool (vs.any e)) s) : wpAny (model prog w) A (call (.ref x) [v]) Q E s := by
  refine wpAny_call (codeAny_of_tree ?_)
  show wpAny _ A.in1 (callAny (.ref x) ⟨[v], []⟩) _ _ s
  simp only [callAny]
  refine wpAny_bind (wpAny_load ho ?_)
  simp only [lcO, show (Value.type "method-wrapper" == Value.type "method" || Value.type "method-wrapper" == Value.type "builtin_function_or_method" || Value.type "method-wrapper" == Value.type "method-wrapper") = true by decide, if_true]
  refine KFB.if_so (by decide) ?_
  refine wpAny_bind (wpAny_of_eq (a := ()) check_lc ?_)
  refine wpAny_bind (wpAny_pure (wpAny_pure ?_))
  exact ⟨lc_quiet _, codeAny_builtin lc_entryf (SeqAt.list_containsAt a vs n none #[] v e prog w _ _ s ⟨hl, fun y hy => (he y hy).at _ _, h⟩)⟩

/-! iter and next of a list -/
noncomputable def liO (l : Addr) (i : Nat) : Obj := { cls := .type "list_iterator", data := .fields #[.ref l, .int i 0] }
noncomputable def liE (i : Nat) : Obj := { cls := .type "list_iterator", data := .fields #[.none, .int i 0] }
theorem li_iter {items : Array Value} {Q : Value → Shared → Prop} (hl : s.heap.IsList a items) (h : Q (.ref s.heap.objs.size) { s with heap := s.heap.push (liO a 0) }) : wpAny (model prog w) A (call (.builtin "iter") [.ref a]) Q E s := by
  refine call_function_entry (by decide +kernel) (by decide +kernel) kdk_entry_iter (kdk_args_iter _) ?_
  unfold Builtin.«iter»
  refine wpAny_bind (m := someArgs "iter" 1 2 _) (wpAny_of_eq (a := [Value.ref a]) (by first | rfl | kernel_rfl!) ?_)
  show wpAny _ _ (pyIter (.ref a) >>= _) _ _ _
  exact wpAny_bind (wpAny_pyIter_list hl (wpAny_pure ⟨_, rfl, h⟩))
theorem li_next {items : Array Value} {i : Nat} {v : Value} {Q : Value → Shared → Prop} (ho : s.heap.get? x = some (liO a i)) (hl : s.heap.IsList a items) (hv : items[i]? = some v)
    (h : ∀ h', h'.get? x = some (liO a (i + 1)) → Heap.SameBut x s.heap h' → Q v { s with heap := h' }) : wpAny (model prog w) A (call (.builtin "next") [.ref x]) Q E s := by
  have hT : s.TypeIs (.ref x) "list_iterator" := ⟨_, ho, rfl⟩
  obtain ⟨ol, hol, _, nl, hdl⟩ := hl
  refine call_function_entry (by decide +kernel) (by decide +kernel) kdk_entry_next (kdk_args_next _) ?_
  unfold Builtin.«next»
  refine wpAny_bind (m := someArgs "next" 1 2 _) (wpAny_of_eq (a := [Value.ref x]) (by first | rfl | kernel_rfl!) ?_)
  dsimp only
  refine wpAny_bind (wpAny_specialOf (name := Str.ofString "__next__") hT slot_listiter_next.lookup ?_)
  refine wpAny_ite_split (fun hab => absurd hab (by decide)) (fun _ => ?_)
  refine wpAny_bind (wpAny_callSpecial?_slot (name := Str.ofString "__next__") hT slot_listiter_next (wpAny_call_entry slot_listiter_next hT entry_listiter_next ?_ (args_listiter_next _)))
  show wpAny _ _ (field (.ref x) 0 >>= _) _ _ s
  refine wpAny_bind (wpAny_field ho rfl (x := .ref a) rfl ?_)
  show wpAny _ _ (if (Value.ref a == Value.none) = true then _ else _) _ _ s
  rw [if_neg (show ¬ ((Value.ref a == Value.none) = true) from Bool.false_ne_true)]
  show wpAny _ _ (field (.ref x) 1 >>= _) _ _ s
  refine wpAny_bind (wpAny_field ho rfl (x := .int i 0) rfl ?_)
  show wpAny _ _ (seqItems? (.ref a) >>= _) _ _ s
  refine wpAny_bind (wpAny_seqItems hol hdl ?_)
  simp only [Int.toNat_natCast, hv]
  refine wpAny_bind (wpAny_setField ho rfl (by simp) (wpAny_pure ⟨v, rfl, wpAny_pure ⟨_, rfl, ?_⟩⟩))
  exact h _ (Heap.get?_update_self _ ho rfl) (Heap.SameBut.update ..)
theorem li_stop {items : Array Value} {i : Nat} {Q : Value → Shared → Prop} (hh : A.handled = none) (ho : s.heap.get? x = some (liO a i)) (hl : s.heap.IsList a items) (hv : items[i]? = none)
    (h : ∀ h' h'' e, h'.get? x = some (liE i) → Heap.SameBut x s.heap h' → Heap.NewExc h' h'' e "StopIteration" → E (.ref e) { s with heap := h'' }) : wpAny (model prog w) A (call (.builtin "next") [.ref x]) Q E s := by
  have hT : s.TypeIs (.ref x) "list_iterator" := ⟨_, ho, rfl⟩
  obtain ⟨ol, hol, _, nl, hdl⟩ := hl
  refine call_function_entry (by decide +kernel) (by decide +kernel) kdk_entry_next (kdk_args_next _) ?_
  unfold Builtin.«next»
  refine wpAny_bind (m := someArgs "next" 1 2 _) (wpAny_of_eq (a := [Value.ref x]) (by first | rfl | kernel_rfl!) ?_)
  dsimp only
  refine wpAny_bind (wpAny_specialOf (name := Str.ofString "__next__") hT slot_listiter_next.lookup ?_)
  refine wpAny_ite_split (fun hab => absurd hab (by decide)) (fun _ => ?_)
  refine wpAny_bind (wpAny_callSpecial?_slot (name := Str.ofString "__next__") hT slot_listiter_next (wpAny_call_entry slot_listiter_next hT entry_listiter_next ?_ (args_listiter_next _)))
  show wpAny _ _ (field (.ref x) 0 >>= _) _ _ s
  refine wpAny_bind (wpAny_field ho rfl (x := .ref a) rfl ?_)
  show wpAny _ _ (if (Value.ref a == Value.none) = true then _ else _) _ _ s
  rw [if_neg (show ¬ ((Value.ref a == Value.none) = true) from Bool.false_ne_true)]
  show wpAny _ _ (field (.ref x) 1 >>= _) _ _ s
  refine wpAny_bind (wpAny_field ho rfl (x := .int i 0) rfl ?_)
  show wpAny _ _ (seqItems? (.ref a) >>= _) _ _ s
  refine wpAny_bind (wpAny_seqItems hol hdl ?_)
  simp only [Int.toNat_natCast, hv]
  refine wpAny_bind (wpAny_rule (wpAny_bind (wpAny_setField ho rfl (by simp) ?_)))
  have e1 := Heap.get?_update_self (Obj.mapFields (·.setIfInBounds 0 Value.none)) ho rfl
  generalize hH : s.heap.update x (Obj.mapFields (·.setIfInBounds 0 Value.none)) = H at e1 ⊢
  have e2 : Heap.SameBut x s.heap H := hH ▸ Heap.SameBut.update ..
  show wpAny _ _ (newExc (.type "StopIteration") [] >>= _) _ _ _
  refine wpAny_bind ?_
  unfold newExc newTuple
  refine wpAny_bind (wpAny_newObj_type ?_ (by size_fits))
  refine wpAny_bind (m := firstArgMember _ _) (wpAny_of_eq (a := Value.none) (by first | rfl | (simp only [firstArgMember]; rfl)) ?_)
  refine wpAny_newObj_type ?_ (by size_fits)
  simp only [raiseNew]
  refine wpAny_bind (wpAny_handled ?_)
  rw [show A.in1.in1.handled = none from hh]
  refine wpAny_bind (wpAny_pure (wpAny_throw ?_))
  exact h H _ _ e1 e2 ⟨fun b o hb => Heap.get?_push_of_some _ (Heap.get?_push_of_some _ hb), Heap.get?_none_of_le (by simp), _, .ref H.objs.size, Heap.get?_push_size _ rfl, rfl, by first | rfl | simp⟩
end

end
/-! text D4 -/
section
open PySem.Builtin PySem.Builtin._codecs

theorem loop_fold {β : Type} {f : Nat → β → Sem (ForInStep β)} {g : Nat → β} : ∀ (n k : Nat), (∀ j, k ≤ j → j < k + n → f j (g j) = pure (ForInStep.yield (g (j + 1)))) → forIn (List.range' k n 1) (g k) f = pure (g (k + n))
  | 0, k, _ => rfl
  | n + 1, k, h => by
    rw [List.range'_succ, List.forIn_cons, h k (Nat.le_refl _) (by omega), pure_bind]
    show forIn (List.range' (k + 1) n 1) (g (k + 1)) f = _
    rw [loop_fold n (k + 1) fun j h1 h2 => h j (by omega) (by omega), show k + 1 + n = k + (n + 1) from by omega]
theorem dec_loop (b : Array UInt8) (id : String) (hb : ∀ c ∈ b.toList, c.toNat < 128) (hz : b.size ≤ 1000000) : runDecoder id asciiDecoder none true b 0 [] = pure ((b.map (·.toNat)), b.size) := by
  unfold runDecoder
  have key : ∀ k, k ≤ b.size → ((b.toList.take k).map (·.toNat)).toArray.size ≤ sizeLine := fun k hk => by
    simp; rw [sizeLine_eq]; omega
  have e : (b.map (·.toNat)) = ((b.toList.take b.size).map (·.toNat)).toArray := by
    rw [List.take_of_length_le (by simp)]; apply Array.toList_inj.mp; simp
  rw [e]
  dsimp only
  rw [Std.Legacy.Range.forIn_eq_forIn_range']
  simp only [Std.Legacy.Range.size]
  rw [show (b.size - 0 + 1 - 1) / 1 = b.size from by simp]
  refine (congrArg (fun m => m >>= _) (loop_fold (g := fun k => (k, ((b.toList.take k).map (·.toNat)).toArray, ({} : Faults))) b.size 0 fun j h1 h2 => ?_)).trans ?_
  · have hj : j < b.size := by omega
    have hk := key j (by omega)
    have hc : (b.getD j 0).toNat < 128 := by
      have : b.getD j 0 = b[j] := by simp [Array.getD, hj]
      rw [this]; exact hb _ (Array.getElem_mem_toList hj)
    rw [if_neg (Nat.not_lt.mpr hk), if_neg (Nat.not_le.mpr hj)]
    have ef : asciiDecoder.find true b j = Found.text [(b.getD j 0).toNat] (j + 1) := by
      show (if (b.getD j 0).toNat < 128 then Found.char _ _ else _) = _
      rw [if_pos hc]; rfl
    simp only [ef]
    congr 4
    apply Array.toList_inj.mp
    have hg : b.getD j 0 = b.toList[j] := by simp [Array.getD, hj]
    rw [List.take_add_one, List.getElem?_eq_getElem (by simpa using hj), hg]
    simp
  · rw [pure_bind, Nat.zero_add]
theorem enc_bytes : ∀ (l : List Nat) (a : Array UInt8), (l.foldl (fun acc y => acc ++ (asciiCodec.bytesOf y).toArray) a).toList = a.toList ++ l.map (·.toUInt8)
  | [], a => (List.append_nil _).symm
  | c :: l, a => by
    rw [List.foldl_cons, enc_bytes l, Array.toList_append, List.append_assoc]; rfl
theorem enc_loop (x : Str) (self : Value) (id : String) (hb : ∀ c ∈ x.cps.toList, c < 128) (hz : x.length ≤ 1000000) : encodeNarrow id asciiCodec none self x = pure (x.cps.map (·.toUInt8)) := by
  have hbad : ∀ c ∈ x.cps.toList, asciiCodec.bad c = false := fun c hc => decide_eq_false (Nat.not_le.mpr (hb c hc))
  have eall : x.cps.findIdx? asciiCodec.bad = none := Array.findIdx?_eq_none_iff.mpr fun c hc => hbad c (Array.mem_toList_iff.mpr hc)
  have eout : Array.foldl (fun acc y => acc ++ (asciiCodec.bytesOf y).toArray) #[] x.cps = x.cps.map (·.toUInt8) := by
    apply Array.toList_inj.mp
    rw [← Array.foldl_toList, Array.toList_map, enc_bytes]; rfl
  unfold encodeNarrow
  dsimp only
  rw [Std.Legacy.Range.forIn_eq_forIn_range', Std.Legacy.Range.size]
  rw [show (x.length - 0 + 1 - 1) / 1 = x.length from Nat.div_one _]
  rcases hn : x.length with _ | n
  · have : x.cps = #[] := Array.eq_empty_of_size_eq_zero hn
    rw [this, List.range'_zero, List.forIn_nil, pure_bind, Array.map_empty]
  · have hlt : 0 < x.cps.size := Nat.lt_of_lt_of_eq (Nat.succ_pos n) hn.symm
    have h0 : x.cps[0]? = some x.cps[0] := Array.getElem?_eq_getElem hlt
    have h0b : (!asciiCodec.bad x.cps[0]) = true := by rw [hbad _ (Array.getElem_mem_toList hlt)]; rfl
    have hs2 : ¬ ((x.cps.map (·.toUInt8)).size > sizeLine) := by
      have : x.cps.size ≤ 1000000 := hz
      rw [Array.size_map, sizeLine_eq]; exact Nat.not_lt.mpr (Nat.le_trans this (by decide))
    rw [List.range'_succ, List.forIn_cons]
    have hf : ∀ {β : Type} (F : Array UInt8 → β), F (Array.foldl (fun acc y => acc ++ (asciiCodec.bytesOf y).toArray) #[] ((x.cps.extract 0 x.cps.size).extract 0 (((x.cps.extract 0 x.cps.size).findIdx? asciiCodec.bad).getD (x.cps.extract 0 x.cps.size).size))) = F (x.cps.map (·.toUInt8)) := fun F => by
      rw [Array.extract_size, eall, Option.getD_none, Array.extract_size, eout]
    have hg : 0 + ((x.cps.extract 0 x.cps.size).findIdx? asciiCodec.bad).getD (x.cps.extract 0 x.cps.size).size = x.cps.size := by rw [Array.extract_size, eall, Option.getD_none, Nat.zero_add]
    refine (congrArg (· >>= _) (congrArg (· >>= _) (a₂ := pure (ForInStep.yield (x.cps.size, x.cps.map (·.toUInt8), {}))) ?_)).trans ?_
    · refine (if_neg (by decide)).trans ?_
      dsimp only
      rw [h0]
      refine (if_pos h0b).trans ?_
      rw [hg, hf fun a => (pure (ForInStep.yield (x.cps.size, a, ({} : Faults))) : Sem (ForInStep (Nat × Array UInt8 × Faults)))]
    rw [pure_bind]
    dsimp only
    rcases n with _ | n
    · rfl
    · rw [List.range'_succ, List.forIn_cons]
      refine (congrArg (· >>= _) (congrArg (· >>= _) (a₂ := pure (ForInStep.done (x.cps.size, x.cps.map (·.toUInt8), ({} : Faults)))) ?_)).trans ?_
      · refine (if_neg hs2).trans ?_
        dsimp only
        rw [show x.cps[x.cps.size]? = none from Array.getElem?_size]
      · rfl

/-! encode and decode by ascii -/
section
variable {prog : Program} {w : World} {A : Around} {E : Value → Shared → Prop} {s : Shared} {Q : Value → Shared → Prop}
theorem encode_tree_ascii (x : Str) (t u : Tok) : «str.encode» ⟨[.str x t, .str (Str.ofString "ascii") u], []⟩ = (do ret (← encodeRoad "str.encode" (.str x t) x (Str.ofString "ascii") none)) := by first | rfl | kernel_rfl
theorem encodeRoad_ascii (id : String) (self : Value) (x : Str) (errors : Option Str) : encodeRoad id self x (Str.ofString "ascii") errors = (do mkBytes (← encodeNarrow id asciiCodec errors self x)) := by
  first | rfl | kernel_rfl
theorem c_encode {x : Str} {t u : Tok} (hb : ∀ c ∈ x.cps.toList, c < 128) (hz : x.length ≤ 1000000) (h : Q (.bytes (x.cps.map (·.toUInt8)) s.toks) { s with toks := s.toks + 1 }) :
    wpAny (model prog w) A (call (.builtin "str.encode") [.str x t, .str (Str.ofString "ascii") u]) Q E s := by
  refine wpAny_call_entry PySem.F.slot_str_encode (typeIs_str _ _ _) PySem.F.entry_str_encode ?_ (PySem.F.args_str_encode_2 _ _)
  rw [encode_tree_ascii, encodeRoad_ascii, enc_loop x _ _ hb hz, pure_bind]
  refine wpAny_bind (wpAny_mkBytes (wpAny_pure ⟨_, rfl, h⟩) ?_)
  have : x.cps.size ≤ 1000000 := hz
  rw [Array.size_map, sizeLine_eq]; omega
theorem args_decode_2 (a b : Value) : argsOk "bytes.decode" ⟨[a, b], []⟩ := by unfold argsOk; kernel_rfl
theorem decode_empty (t u : Tok) : «bytes.decode» ⟨[.bytes #[] t, .str (Str.ofString "ascii") u], []⟩ = (do rule "bytes.decode.empty"; retStr Str.empty) := by kernel_rfl
theorem decode_some (c : UInt8) (cs : List UInt8) (t u : Tok) : «bytes.decode» ⟨[.bytes (c :: cs).toArray t, .str (Str.ofString "ascii") u], []⟩ = (mkStr (Str.ofString "utf-8") >>= fun _ => mkStr (Str.ofString "ascii") >>= fun e => mkStr (Str.ofString "bytes.decode") >>= fun d =>
    call (.builtin "_codecs.decode.text") [.bytes (c :: cs).toArray t, e, .none, d] >>= fun v => ret v) := by kernel_rfl
theorem decodeRoad_ascii {id : String} {b : Array UInt8} : decodeRoad id b (Str.ofString "ascii") none [] = (runDecoder id asciiDecoder none true b 0 [] >>= fun r => mkStr ⟨r.1⟩) := by kernel_rfl
theorem c_decode_text {b : Array UInt8} {t t1 t2 : Tok} {d : Str} (hb : ∀ c ∈ b.toList, c.toNat < 128) (hz : b.size ≤ 1000000) :
    Meets («_codecs.decode.text» ⟨[.bytes b t, .str (Str.ofString "ascii") t1, .none, .str d t2], []⟩) (fun _ R s => R (.ok (.ret (.str ⟨b.map (·.toNat)⟩ s.toks))) { s with toks := s.toks + 1 }) := by
  refine .of_wp fun prog w A R s h => ?_
  show wpAny _ _ (Bytes.bytesLike _ (.bytes b t) >>= fun r => _) _ _ s
  refine wpAny_bind (wpAny_of_eq KBd.like_eq ?_)
  refine wpAny_bind (wpAny_of_eq KBd.held_eq ?_)
  show wpAny _ _ (_codecs.decodeRoad _ b (Str.ofString "ascii") none [] >>= fun v => _) _ _ s
  rw [decodeRoad_ascii, dec_loop b _ hb hz]
  refine wpAny_bind (wpAny_bind (wpAny_pure ?_))
  refine wpAny_mkStr (wpAny_pure ⟨_, rfl, h⟩) ?_
  show (b.map (·.toNat)).size ≤ _
  rw [Array.size_map, sizeLine_eq]; omega
theorem c_decode {b : Array UInt8} {t u : Tok} (hb : ∀ c ∈ b.toList, c.toNat < 128) (hz : b.size ≤ 1000000) (h : ∀ t' k, Q (.str ⟨b.map (·.toNat)⟩ t') { s with toks := k }) :
    wpAny (model prog w) A (call (.builtin "bytes.decode") [.bytes b t, .str (Str.ofString "ascii") u]) Q E s := by
  refine wpAny_call_entry FB.slot_bytes_decode (typeIs_bytes _ _ _) FB.entry_bytes_decode ?_ (args_decode_2 _ _)
  obtain ⟨l⟩ := b
  cases l with
  | nil =>
    rw [decode_empty]
    have h' := h s.toks (s.toks + 1)
    rw [show (⟨(⟨[]⟩ : Array UInt8).map (·.toNat)⟩ : Str) = Str.empty from by simp [Str.empty]] at h'
    exact wpAny_bind (wpAny_rule (wpAny_bind (wpAny_mkStr (wpAny_pure ⟨_, rfl, h'⟩) (by decide))))
  | cons c cs =>
    rw [decode_some]
    refine wpAny_bind (wpAny_mkStr ?_ (by decide))
    refine wpAny_bind (wpAny_mkStr ?_ (by decide))
    refine wpAny_bind (wpAny_mkStr ?_ (by decide))
    exact wpAny_bind (call_function_meets KBd.kind_text KBd.plain_text KBd.entry_text (KBd.args_text _ _ _ _) (c_decode_text hb hz) (wpAny_pure ⟨_, rfl, h _ _⟩))

/-! maketrans and translate -/
noncomputable def trTab (a b : Array UInt8) : Array UInt8 := (a.toList.zip b.toList).foldl (fun t (f, x) => t.setIfInBounds f.toNat x) ((Array.range 256).map (·.toUInt8))
theorem trTab_size (a b : Array UInt8) : (trTab a b).size = 256 := by
  unfold trTab
  generalize a.toList.zip b.toList = l
  have : ∀ (l : List (UInt8 × UInt8)) (t : Array UInt8), (l.foldl (fun t (f, x) => t.setIfInBounds f.toNat x) t).size = t.size := by
    intro l
    induction l with
    | nil => intro t; rfl
    | cons p l ih => intro t; rw [List.foldl_cons, ih]; simp
  rw [this]; simp
theorem check_mk {a b : Value} : checkBuiltinCall "bytes.maketrans" ⟨[a, b], []⟩ = pure () := by kernel_rfl
theorem entry_mk : entryFor table "bytes.maketrans" = some Builtin.«bytes.maketrans» := entryFor_of_tree (by kernel_rfl)
theorem plain_mk : plainId "bytes.maketrans" = true := by decide +kernel
theorem slot_tr : Slot "bytes" "translate" "bytes.translate" :=
  .of (owner := "bytes") (n := "translate") (by rw [typeLookup_type, builtinLookup_eq_fast]; kernel_rfl) (by decide +kernel) (by decide +kernel) (by decide +kernel)
    (by first | exact .inl (by decide +kernel) | exact .inr (by decide +kernel)) (by rw [isSubtype_type]; kernel_rfl)
theorem type_tr : typeOf (.builtin "bytes.translate") = pure (.type "method_descriptor") := by show builtinType _ = _; rw [builtinType_eq_fast]; kernel_rfl
theorem entry_tr : entryFor table "bytes.translate" = some Builtin.«bytes.translate» := entryFor_of_tree (by kernel_rfl)
theorem args_tr (a b : Value) : argsOk "bytes.translate" ⟨[a, b], []⟩ := by unfold argsOk; kernel_rfl
theorem c_maketrans {a b : Array UInt8} {t u : Tok} (hs : a.size = b.size) (h : Q (.bytes (trTab a b) s.toks) { s with toks := s.toks + 1 }) : wpAny (model prog w) A (call (.builtin "bytes.maketrans") [.bytes a t, .bytes b u]) Q E s := by
  refine wpAny_call (codeAny_call_builtin plain_mk entry_mk ?_)
  refine wpAny_of_eq (a := ()) check_mk ?_
  show wpAny _ _ (Bytes.bytesLike _ (.bytes a t) >>= fun r => _) _ _ s
  refine wpAny_bind (wpAny_of_eq KBd.like_eq ?_)
  refine wpAny_bind (wpAny_of_eq KBd.like_eq ?_)
  rw [if_neg (by rw [hs]; simp)]
  show wpAny _ _ (mkBytes (trTab a b) >>= fun v => ret v) _ _ s
  exact wpAny_bind (wpAny_mkBytes (wpAny_pure h) (by rw [trTab_size, sizeLine_eq]; decide))
theorem c_translate {b tb : Array UInt8} {t u : Tok} (hz : b.size ≤ 1000000) (ht : tb.size = 256) (h : ∀ t' k, Q (.bytes (b.map fun c => tb.getD c.toNat c) t') { s with toks := k }) : wpAny (model prog w) A (call (.builtin "bytes.translate") [.bytes b t, .bytes tb u]) Q E s := by
  refine wpAny_call_entry slot_tr (typeIs_bytes _ _ _) entry_tr ?_ (args_tr _ _)
  show wpAny _ _ (Bytes.bytesLike _ (.bytes tb u) >>= fun r => _) _ _ s
  refine wpAny_bind (wpAny_of_eq KBd.like_eq ?_)
  rw [if_neg (by rw [ht]; decide)]
  refine wpAny_bind (wpAny_pure ?_)
  refine wpAny_bind (wpAny_pure ?_)
  refine wpAny_bind (wpAny_pure ?_)
  have e : Array.map (fun c => match some tb with | some t => t.getD c.toNat c | none => c) (Array.filter (fun x => !(#[] : Array UInt8).contains x) b) = b.map fun c => tb.getD c.toNat c := by
    rw [show Array.filter (fun x => !(#[] : Array UInt8).contains x) b = b from by simp [Array.filter_eq_self]]
  rw [e]
  show wpAny _ _ (if ((b.map fun c => tb.getD c.toNat c) == b) = true then _ else _) _ _ s
  split
  · rename_i heq
    refine wpAny_bind (wpAny_rule ?_)
    have e2 := h t s.toks
    rw [eq_of_beq heq] at e2
    refine wpAny_bind (m := Bytes.Kind.same .bytes (.bytes b t)) (wpAny_bind (m := typeOf (.bytes b t)) (wpAny_pure (wpAny_pure (wpAny_pure ⟨_, rfl, e2⟩))))
  · refine wpAny_bind (m := Bytes.Kind.new .bytes _) (wpAny_mkBytes (wpAny_pure ⟨_, rfl, h _ _⟩) (by rw [Array.size_map, sizeLine_eq]; omega))
end

end
/-! text D5 -/
section
open PySem.Builtin PySem.Builtin.Re

/-! the pattern of the unsafe signs -/
noncomputable def reCode : Array Nat := #[14, 17, 4, 1, 1, 21, 9, 0, 604043296, 1, 0, 0, 0, 0, 0, 8, 4, 0, 13, 14, 21, 9, 0, 604043296, 1, 0, 0, 0, 0, 0, 8, 4, 0, 1]
noncomputable def csWord (k : Nat) : Nat := reCode.getD (7 + k) 0
noncomputable def safeC (c : Nat) : Bool := (decide (c < 256) && (csWord (c / 32)).testBit (c % 32)) || Sre.isWord c
section
variable {c i : Nat} (hi : i = 5 ∨ i = 20) (s : Sre.Seen)
include hi
theorem in_s1 : Sre.inSet reCode c 34 i true s = Sre.inSet reCode c 33 (i + 1) false (s.add 21) := by rcases hi with rfl | rfl <;> kernel_rfl
theorem in_s2 : Sre.inSet reCode c 33 (i + 1) false s = if (decide (c < 256) && (csWord (c / 32)).testBit (c % 32)) = true then .ok (false, s.add 9) else Sre.inSet reCode c 32 (i + 10) false (s.add 9) := by
  have k : ∀ i, (i = 5 ∨ i = 20) → ∀ k, k < 8 → reCode.getD (i + 1 + (1 + k)) 0 = csWord k := by rintro i (rfl | rfl) <;> decide
  have e : Sre.inSet reCode c 33 (i + 1) false s = if (decide (c < 256) && (reCode.getD (i + 1 + (1 + c / 32)) 0).testBit (c % 32)) = true then .ok (false, s.add 9) else Sre.inSet reCode c 32 (i + 10) false (s.add 9) := by
    rcases hi with rfl | rfl <;> kernel_rfl
  rw [e]
  by_cases hc : c < 256
  · rw [k i hi (c / 32) (Nat.div_lt_of_lt_mul hc)]
  · rw [decide_eq_false hc, Bool.false_and, Bool.false_and]
theorem in_s3 (hw : Sre.isWord c = true) : ∃ s', Sre.inSet reCode c 32 (i + 10) false s = .ok (false, s') := by
  have e : Sre.inSet reCode c 32 (i + 10) false s = (Except.ok (Sre.isWord c != false) >>= fun b => if b = true then pure (false, (s.add 8).add 59) else Sre.inSet reCode c 31 (i + 12) false ((s.add 8).add 59)) := by
    rcases hi with rfl | rfl <;> kernel_rfl
  rw [e, hw]; exact ⟨_, rfl⟩
theorem in_s4 (hw : Sre.isWord c = false) : ∃ s', Sre.inSet reCode c 32 (i + 10) false s = .ok (true, s') := by
  have e : Sre.inSet reCode c 32 (i + 10) false s = (Except.ok (Sre.isWord c != false) >>= fun b => if b = true then pure (false, (s.add 8).add 59) else .ok (true, ((s.add 8).add 59).add 0)) := by
    rcases hi with rfl | rfl <;> kernel_rfl
  rw [e, hw]; exact ⟨_, rfl⟩
end
theorem inSet_at (c i : Nat) (hi : i = 5 ∨ i = 20) (seen : Sre.Seen) : ∃ seen', Sre.inSet reCode c reCode.size i true seen = .ok (!safeC c, seen') := by
  show ∃ seen', Sre.inSet reCode c 34 i true seen = _
  rw [in_s1 hi, in_s2 hi, safeC]
  cases (decide (c < 256) && (csWord (c / 32)).testBit (c % 32)) with
  | true => exact ⟨_, rfl⟩
  | false =>
    rw [if_neg Bool.false_ne_true, Bool.false_or]
    cases hw : Sre.isWord c with
    | true => exact in_s3 hi _ hw
    | false => exact in_s4 hi _ hw

theorem admitted_none (m : Sre.M) (hc : m.code = reCode) : ∀ (fuel s : Nat) (seen : Sre.Seen), (∀ j, s ≤ j → j < m.lim → safeC (m.text.getD j 0) = true) → ∃ seen', m.admitted fuel s seen = .ok (none, seen')
  | 0, s, seen, _ => ⟨_, rfl⟩
  | fuel + 1, s, seen, h => by
    rw [Sre.M.admitted]
    by_cases hs : s ≥ m.lim
    · rw [if_pos hs]; exact ⟨_, rfl⟩
    · rw [if_neg hs, hc]
      obtain ⟨seen', e⟩ := inSet_at (m.text.getD s 0) 5 (.inl rfl) seen
      rw [e, h s (Nat.le_refl _) (by omega)]
      exact admitted_none m hc fuel (s + 1) seen' fun j h1 h2 => h j (by omega) h2
theorem admitted_some (m : Sre.M) (hc : m.code = reCode) : ∀ (fuel s : Nat) (seen : Sre.Seen), (∃ j, s ≤ j ∧ j < m.lim ∧ j < s + fuel ∧ safeC (m.text.getD j 0) = false) →
    ∃ j seen', m.admitted fuel s seen = .ok (some j, seen') ∧ j < m.lim ∧ safeC (m.text.getD j 0) = false
  | 0, s, seen, ⟨j, h1, _, h3, _⟩ => by omega
  | fuel + 1, s, seen, ⟨j, h1, h2, h3, h4⟩ => by
    rw [Sre.M.admitted, if_neg (by omega), hc]
    obtain ⟨seen', e⟩ := inSet_at (m.text.getD s 0) 5 (.inl rfl) seen
    rw [e]
    cases hs : safeC (m.text.getD s 0)
    · exact ⟨s, seen', rfl, by omega, hs⟩
    · have hne : j ≠ s := by rintro rfl; rw [hs] at h4; cases h4
      exact admitted_some m hc fuel (s + 1) seen' ⟨j, by omega, h2, by omega, h4⟩
noncomputable def reM (text : Array Nat) : Sre.M := { code := reCode, text, lim := text.size, start := 0, pc := 18, pos := 0, handed := 0, marks := #[], mustAdvance := false, seen := ({} : Sre.Seen).add 14, lastStart := text.size }
theorem forSearch_eq (text : Array Nat) (h : 0 < text.size) : Sre.forSearch reCode text 0 0 text.size false = (reM text).attemptFrom 0 true := by
  unfold Sre.forSearch
  have hh : Sre.header reCode = (1, 18) := by decide
  simp only [hh]
  have hc : (decide (0 > text.size) || decide (text.size - 0 < 1)) = false := by rw [decide_eq_false (by omega), decide_eq_false (by omega)]; rfl
  rw [if_neg (by rw [hc]; decide)]
  rfl
theorem search_none (text : Array Nat) (h : 0 < text.size) (hs : ∀ j, j < text.size → safeC (text.getD j 0) = true) : ∃ m, (Sre.forSearch reCode text 0 0 text.size false).runFor reTurnSteps = m ∧ m.outcome = some .failed := by
  rw [forSearch_eq text h]
  unfold Sre.M.attemptFrom
  rw [show (reM text).hasFirstSet = true from rfl]
  obtain ⟨seen', e⟩ := admitted_none (reM text) rfl ((reM text).lim + 1 - 0) 0 (reM text).seen fun j _ h2 => hs j h2
  rw [e]
  exact ⟨_, rfl, rfl⟩
theorem search_some (text : Array Nat) (h : ∃ j, j < text.size ∧ safeC (text.getD j 0) = false) : ∃ m, (Sre.forSearch reCode text 0 0 text.size false).runFor reTurnSteps = m ∧ m.outcome = some .matched := by
  obtain ⟨j, hj, hb⟩ := h
  rw [forSearch_eq text (by omega)]
  unfold Sre.M.attemptFrom
  rw [show (reM text).hasFirstSet = true from rfl]
  obtain ⟨k, seen', e, hk, hkb⟩ := admitted_some (reM text) rfl ((reM text).lim + 1 - 0) 0 (reM text).seen ⟨j, Nat.zero_le _, hj, by show j < 0 + (text.size + 1 - 0); omega, hb⟩
  rw [e]
  refine ⟨_, rfl, ?_⟩
  obtain ⟨seen₂, e2⟩ := inSet_at (text.getD k 0) 20 (.inr rfl) (seen'.add 13)
  let m1 : Sre.M := { code := reCode, text, lim := text.size, start := k, lastStart := text.size, pc := 18, pos := k, handed := k, outermost := true, marks := #[], frames := [{ wait := .nextStart, pc := 18, pos := k, outermost := true }], weight := 1, seen := seen' }
  show (Sre.M.runFor 4 m1).outcome = _
  have h1 : m1.step = { m1 with seen := seen₂, pc := 33, pos := k + 1 } := by
    show m1.exec = _
    unfold Sre.M.exec
    show (if m1.pos ≥ m1.lim then _ else _) = _
    rw [if_neg (show ¬ (k ≥ text.size) from by have : k < text.size := hk; omega)]
    have ha : Sre.accepts reCode 18 (text.getD k 0) (seen'.add 13) = .ok (true, seen₂) := by
      unfold Sre.accepts
      show Sre.inSet reCode (text.getD k 0) reCode.size 20 true (seen'.add 13) = _
      rw [e2, show safeC (text.getD k 0) = false from hkb]; rfl
    show (match Sre.accepts reCode 18 (text.getD k 0) (seen'.add 13) with | .error why => _ | .ok (false, seen) => _ | .ok (true, seen) => _) = _
    rw [ha]
    rfl
  rw [Sre.M.runFor, if_neg (by exact Bool.false_ne_true), h1]
  rfl

structure ReObj (h : Heap) (a : Addr) : Prop where
  ex : ∃ o fs k ok its n, h.get? a = some o ∧ o.cls = .type "re.Pattern" ∧ o.data = .fields fs ∧ reRawNat (fs.getD 6 .none) = 0 ∧ reRawNat (fs.getD 2 .none) = 0 ∧ fs.getD 5 .none = .ref k ∧ h.get? k = some ok ∧ ok.data = .seq its n ∧ (its.map reRawOf).map (·.toNat) = reCode
section
variable {prog : Program} {w : World} {A : Around} {E : Value → Shared → Prop} {s : Shared} {a u : Addr} {x : Str} {t : Tok}
theorem forIn_rules {α : Type} {M : Model} {A : Around} {E : Value → Shared → Prop} (f : α → PUnit → Sem (ForInStep PUnit)) (hf : ∀ (i : α) (Q : ForInStep PUnit → Shared → Prop) s, Q (.yield ()) s → wpAny M A (f i ()) Q E s) :
    ∀ (l : List α) (Q : PUnit → Shared → Prop) (s : Shared), Q () s → wpAny M A (forIn l PUnit.unit f) Q E s
  | [], Q, s, h => wpAny_pure h
  | i :: l, Q, s, h => by
    rw [List.forIn_cons]
    exact wpAny_bind (hf i _ s (forIn_rules f hf l Q s h))
theorem reRun_end {m : Sre.M} {Q : Option Sre.M → Shared → Prop} {m' : Sre.M} (hr : m.runFor reTurnSteps = m') (ho : m'.outcome = some .matched ∨ m'.outcome = some .failed) (h : Q (if m'.outcome.any (fun o => match o with | .matched => true | _ => false) then some m' else none) s) :
    wpAny (model prog w) A (reRunToEnd m) Q E s := by
  unfold reRunToEnd
  refine wpAny_bind ?_
  show wpAny _ _ (reDrive (18446744073709551615 + 1) m) _ _ _
  rw [reDrive, hr]
  have hs : m'.outcome.isSome = true := by rcases ho with ho | ho <;> rw [ho] <;> rfl
  rw [if_pos hs]
  refine wpAny_pure (wpAny_bind (forIn_rules _ (fun i Q s hq => ?_) _ _ _ ?_))
  · split
    · exact wpAny_bind (wpAny_rule (wpAny_pure hq))
    · exact wpAny_pure hq
  · rcases ho with ho | ho
    · rw [ho] at h ⊢
      exact wpAny_pure h
    · rw [ho] at h ⊢
      exact wpAny_pure h

theorem re_entry : entryFor table "re.Pattern.search" = some Builtin.«re.Pattern.search» := entryFor_of_tree (by kernel_rfl)
theorem re_quiet (as : Args) : (Code.builtin "re.Pattern.search" as).quiet = true := Code.quiet_builtin _ (by decide +kernel)
theorem re_args {v v' : Value} : ((Manifest.signature? "re.Pattern.search").map fun sig => Bind.checkArgs "re.Pattern.search" { sig with full := s!"{Bind.lastOf "re.Pattern"}.{Bind.lastOf "re.Pattern.search"}" } ⟨[v, v'], []⟩) = some (pure ()) := by kernel_rfl
theorem re_kind : builtinKind "re.Pattern.search" = some .method := by decide +kernel
theorem re_vararg : Manifest.varargsMethods.contains "re.Pattern.search" = false := by decide +kernel
theorem re_nomod : isSubtype (.type "re.Pattern") (.type "module") = pure false := by rw [isSubtype_type]; kernel_rfl
theorem re_check {Q : Unit → Shared → Prop} {o : Obj} {fs : Array Value} (ho : s.heap.get? a = some o) (hoc : o.cls = .type "re.Pattern") (hod : o.data = .fields fs) (h : Q () s) : wpAny (model prog w) A (checkBoundCall "re.Pattern.search" ⟨[.ref a, .str x t], []⟩) Q E s := by
  have hT : s.TypeIs (.ref a) "re.Pattern" := ⟨_, ho, hoc⟩
  unfold checkBoundCall
  have hA := re_args (v := .ref a) (v' := .str x t)
  cases hsig : Manifest.signature? "re.Pattern.search" with
  | none => exact wpAny_pure h
  | some sig =>
    rw [hsig, Option.map_some] at hA
    have hA := Option.some.inj hA
    simp only [re_kind]
    rw [if_neg (by decide)]
    refine wpAny_bind (wpAny_isInstance (T := "re.Pattern") hT re_nomod ?_)
    simp only [re_vararg, Bool.or_self, Bool.false_eq_true, if_false]
    refine wpAny_bind (m := isType (.ref a)) ?_
    show wpAny _ _ (loadHead a >>= _) _ _ _
    refine wpAny_bind (wpAny_loadPart ho ?_)
    rw [hod]
    refine wpAny_pure ?_
    simp only [Bool.false_eq_true, if_false]
    refine wpAny_bind (wpAny_typeOf hT ?_)
    dsimp only
    exact wpAny_of_eq (a := ()) hA h
theorem re_named {v : Value} : reNamed "re.Pattern.search" "search" ["string", "pos", "endpos"] 1 [v] [] = pure [some v, none, none] := by first | rfl | kernel_rfl
theorem re_search {P : Fin → Shared → Prop} (O : ReObj s.heap a) (hx : 0 < x.length) (hz : x.length ≤ 1000000)
    (h : if x.cps.toList.all safeC = true then P (.done (.ret .none)) s else ∀ r h' k, (∀ b o, s.heap.get? b = some o → h'.get? b = some o) → P (.done (.ret (.ref r))) { s with heap := h', toks := k }) :
    wpAny (model prog w) A (Builtin.«re.Pattern.search» ⟨[.ref a, .str x t], []⟩) P E s := by
  obtain ⟨o, fs, k, ok, its, n, ho, _, hd, h6, h2, h5, hk, hkd, hcode⟩ := O.ex
  unfold Builtin.«re.Pattern.search» reTarget
  refine wpAny_bind ?_
  show wpAny _ _ (reNamed "re.Pattern.search" "search" ["string", "pos", "endpos"] 1 [.str x t] [] >>= _) _ _ s
  rw [re_named]
  refine wpAny_bind (wpAny_pure ?_)
  refine wpAny_bind (wpAny_pure ?_)
  refine wpAny_bind (wpAny_pure ?_)
  refine wpAny_bind (wpAny_fieldsOf ho hd ?_)
  refine wpAny_bind (wpAny_of_eq (a := (x.cps, 0)) (by first | rfl | kernel_rfl) ?_)
  dsimp only
  rw [h6]
  rw [if_neg (by decide), if_neg (by decide)]
  refine wpAny_bind (wpAny_of_eq (a := ()) (by first | rfl | kernel_rfl) ?_)
  rw [h5]
  unfold reRawItems
  refine wpAny_bind (wpAny_bind (wpAny_seqItems hk hkd (wpAny_pure (wpAny_pure ?_))))
  dsimp only
  rw [h2]
  show wpAny _ _ (reAnswer _ (Sre.forSearch (Array.map (·.toNat) (Array.map reRawOf its)) x.cps 0 (min (0 : Int).toNat x.cps.size) (min ((2 ^ 63 - 1 : Int)).toNat x.cps.size) false)) _ _ _
  have e1 : min (0 : Int).toNat x.cps.size = 0 := by simp
  have e2 : min ((2 ^ 63 - 1 : Int)).toNat x.cps.size = x.cps.size := by
    refine Nat.min_eq_right ?_
    have : x.cps.size ≤ 1000000 := hz
    have e : ((2 ^ 63 - 1 : Int)).toNat = 9223372036854775807 := by decide
    rw [e]; omega
  rw [e1, e2, hcode]
  unfold reAnswer
  by_cases ha : x.cps.toList.all safeC = true
  · rw [if_pos ha] at h
    obtain ⟨m, hm, ho⟩ := search_none x.cps hx fun j hj => by
      have := List.all_eq_true.mp ha x.cps[j] (Array.getElem_mem_toList hj)
      have e : x.cps.getD j 0 = x.cps[j] := by simp [Array.getD, hj]
      rw [e]; exact this
    refine wpAny_bind (reRun_end hm (.inr ho) ?_)
    rw [ho]
    exact wpAny_pure h
  · rw [if_neg ha] at h
    have hex : ∃ j, j < x.cps.size ∧ safeC (x.cps.getD j 0) = false := by
      have hf : x.cps.toList.all safeC = false := by simpa using ha
      rw [List.all_eq_false] at hf
      obtain ⟨c, hc, hcb⟩ := hf
      obtain ⟨j, hj, e⟩ := List.getElem_of_mem hc
      have hj' : j < x.cps.size := by simpa using hj
      refine ⟨j, hj', ?_⟩
      have e2 : x.cps.getD j 0 = x.cps.toList[j] := by simp [Array.getD, hj']
      rw [e2, e]; simpa using hcb
    obtain ⟨m, hm, ho⟩ := search_some x.cps hex
    refine wpAny_bind (reRun_end hm (.inl ho) ?_)
    rw [ho]
    rw [show (if (some Sre.Outcome.matched).any (fun o => match o with | .matched => true | _ => false) = true then some m else none) = some m from rfl]
    show wpAny _ _ ((newTuple (rawInt m.start :: rawInt m.handed :: []) >>= fun tt => newFields "re.Match" [.str x t, .ref a, rawInt (0 : Nat), rawInt x.cps.size, rawInt m.lastindex, tt]) >>= fun r => ret r) P E s
    unfold newTuple newFields
    refine wpAny_bind (wpAny_bind (wpAny_newObj_type (wpAny_newObj_type (wpAny_pure (h _ _ _ ?_))) (show 2 ≤ sizeLine by rw [sizeLine_eq]; decide)))
    exact fun b o e => Heap.get?_push_of_some _ (Heap.get?_push_of_some _ e)

noncomputable def seO (a : Addr) : Obj := { cls := .type "builtin_function_or_method", data := .fields #[.builtin "re.Pattern.search", .ref a] }
theorem re_call {Q : Value → Shared → Prop} (O : ReObj s.heap a) (ho : s.heap.get? u = some (seO a)) (hx : 0 < x.length) (hz : x.length ≤ 1000000)
    (h : if x.cps.toList.all safeC = true then Q .none s else ∀ r h' k, (∀ b o, s.heap.get? b = some o → h'.get? b = some o) → Q (.ref r) { s with heap := h', toks := k }) :
    wpAny (model prog w) A (call (.ref u) [.str x t]) Q E s := by
  refine wpAny_call (codeAny_of_tree ?_)
  show wpAny _ A.in1 (callAny (.ref u) ⟨[.str x t], []⟩) _ _ s
  show wpAny _ _ (_ >>= _) _ _ _
  refine wpAny_bind (wpAny_load ho ?_)
  refine KFB.if_so (by kernel_rfl) ?_
  refine KFB.if_so (by kernel_rfl) ?_
  obtain ⟨o, fs, _, _, _, _, h1, h2, h3, _⟩ := O.ex
  refine wpAny_bind (re_check h1 h2 h3 ?_)
  refine wpAny_bind (wpAny_pure (wpAny_pure ?_))
  refine ⟨re_quiet _, codeAny_builtin re_entry (re_search O hx hz ?_)⟩
  split at h
  · rename_i ha; rw [if_pos ha]; exact h
  · rename_i ha; rw [if_neg ha]; exact h
end

end
/-! text M0 -/
section

noncomputable def nv : Value → Value
  | .int i _ => .int i 0
  | .float b _ => .float b 0
  | .str x _ => .str x 0
  | .bytes b _ => .bytes b 0
  | v => v
theorem nv_int {v : Value} {i : Int} {t : Tok} (h : nv v = .int i t) : ∃ u, v = .int i u := by
  cases v <;> simp [nv] at h ⊢ <;> simp_all
theorem nv_str {v : Value} {x : Str} {t : Tok} (h : nv v = .str x t) : ∃ u, v = .str x u := by
  cases v <;> simp [nv] at h ⊢ <;> simp_all
theorem nv_bytes {v : Value} {x : Array UInt8} {t : Tok} (h : nv v = .bytes x t) : ∃ u, v = .bytes x u := by
  cases v <;> simp [nv] at h ⊢ <;> simp_all
theorem nv_ref {v : Value} {a : Addr} (h : nv v = .ref a) : v = .ref a := by cases v <;> simp [nv] at h ⊢ <;> simp_all
theorem nv_bool {v : Value} {b : Bool} (h : nv v = .bool b) : v = .bool b := by cases v <;> simp [nv] at h ⊢ <;> simp_all
theorem nv_none {v : Value} (h : nv v = .none) : v = .none := by cases v <;> simp [nv] at h ⊢
theorem nv_type {v : Value} {n : String} (h : nv v = .type n) : v = .type n := by cases v <;> simp [nv] at h ⊢ <;> simp_all
theorem nv_builtin {v : Value} {n : String} (h : nv v = .builtin n) : v = .builtin n := by cases v <;> simp [nv] at h ⊢ <;> simp_all

noncomputable abbrev Lc := List (Str × Option Value)
noncomputable abbrev Fl := List (Str × Value)

inductive AO where
  | inst (C d : Addr) (fs : Fl)
  | list (xs : List Value)
  | raw (o : Obj)
structure AS where
  loc : Lc
  obj : List (Addr × AO)

noncomputable def AO.addrs : Addr → AO → List Addr
  | a, .inst _ d _ => [a, d]
  | a, _ => [a]
noncomputable def addrsOf (l : List (Addr × AO)) : List Addr := l.flatMap fun p => p.2.addrs p.1

inductive Flds : List DictEntry → Fl → Prop
  | nil : Flds [] []
  | cons {hs : Int} {n : Str} {t : Tok} {u v : Value} {es : List DictEntry} {fs : Fl} : nv u = v → Flds es fs → Flds (⟨hs, .str n t, u⟩ :: es) ((n, v) :: fs)

noncomputable def OAt (news : List (Addr × Obj)) (a : Addr) : AO → Prop
  | .inst C d fs => ∃ sl es n, (a, (⟨.ref C, some d, .plain, sl⟩ : Obj)) ∈ news ∧ (d, dictOf es n) ∈ news ∧ Flds es fs ∧ (fs.map (·.1)).Nodup
  | .list xs => ∃ vs n, (a, (⟨.type "list", none, .seq vs n, #[]⟩ : Obj)) ∈ news ∧ vs.toList.map nv = xs
  | .raw o => (a, o) ∈ news

structure Wd where
  prog : Program
  w : World
  K : Frag
  p : Program
  loose : List Str
  mg : Str → Option Value
  mb : Str → Option Value

structure Fm where
  A₀ : Around
  A : Around
  base : Heap
  outer : List Env
  h₀ : Heap
  env : Env
  os : OsState
  rest : List (Addr × Obj)
  room : Nat
  gn : Nat

structure FmOk (W : Wd) (F : Fm) : Prop where
  X : W.K.In F.base
  T : TopRead W.p W.loose W.mg W.mb F.base
  hk : F.env.scope.kind = .function
  hg : F.env.globals = mainGlobals
  hb : F.env.builtins = builtinsNs
  hh : F.A.handled = none
  depth : F.A.depth + F.room ≤ 800
  units : F.A.units + 10 * F.room ≤ 8000

noncomputable def LocAt (env : Env) (m : Str → Option Value) (news : List (Addr × Obj)) (x : Str) (v : Value) : Prop :=
  (env.kindOf x = some .local ∧ ∃ u, m x = some u ∧ nv u = v) ∨
  ((env.kindOf x = some .cell ∨ (env.kindOf x = some .free ∧ (x == ("__classdict__" : Str)) = false)) ∧ ∃ c o u, env.cells.lookup x = some c ∧ (c, o) ∈ news ∧ o.data = .cell (some u) ∧ nv u = v)

structure Mp where
  m : Str → Option Value
  g : Heap
noncomputable abbrev Fm.fs (F : Fm) : List Addr := F.outer.filterMap (·.frame)
structure Led (F : Fm) (σ : AS) (m : Str → Option Value) (news : List (Addr × Obj)) : Prop where
  loc : ∀ x v, (x, some v) ∈ σ.loc → LocAt F.env m news x v
  knd : ∀ p ∈ σ.loc, (F.env.kindOf p.1 = some .local ∨ (F.env.kindOf p.1 = some .cell ∧ (F.env.cells.lookup p.1).isSome = true) ∨ F.env.kindOf p.1 = some .free) ∧ (p.1 == ("__debug__" : Str)) = false
  nod : (σ.loc.map (·.1)).Nodup
  cel : ∀ p ∈ F.env.cells, ∃ o u, (p.2, o) ∈ news ∧ o.data = .cell u
  obj : ∀ p ∈ σ.obj, OAt news p.1 p.2
  rst : ∀ p ∈ F.rest, p ∈ news
  apart : (F.env.cells.map (·.2) ++ (addrsOf σ.obj ++ F.rest.map (·.1))).Nodup
noncomputable def GOk (F : Fm) (gens : Array GenState) : Prop := AllBare gens ∧ F.gn ≤ gens.size
structure Rep (F : Fm) (σ : AS) (s : Shared) (m : Mp) (news : List (Addr × Obj)) : Prop extends Led F σ m.m news where
  fr : Fr m.g F.env.locals s.heap m.m
  nw : News m.g F.env.locals s.heap news
  bl : Below F.A₀ F.base F.outer m.g
  tn : KtsTurn F.fs F.h₀ m.g
  bare : GOk F s.gens
  os : s.os = F.os

noncomputable def Go {α : Type} (W : Wd) (F : Fm) (E : Value → Shared → Prop) (σ : AS) (t : Sem α) (P : α → AS → Prop) : Prop :=
  ∀ s m news, Rep F σ s m news → wpAny (model W.prog W.w) F.A t (fun x s' => ∃ σ' m' news', P x σ' ∧ Rep F σ' s' m' news') E s
noncomputable abbrev GoV (W : Wd) (F : Fm) (E : Value → Shared → Prop) (σ : AS) (t : Sem Value) (P : Value → AS → Prop) : Prop := Go W F E σ t fun v σ' => P (nv v) σ'
noncomputable def nf : Flow → Flow
  | .ret v => .ret (nv v)
  | f => f
noncomputable abbrev GoF (W : Wd) (F : Fm) (E : Value → Shared → Prop) (σ : AS) (t : Sem Flow) (P : Flow → AS → Prop) : Prop := Go W F E σ t fun f σ' => P (nf f) σ'
noncomputable def Op1 (W : Wd) (F : Fm) (E : Value → Shared → Prop) (σ : AS) (a : Value) (t : Value → Sem Value) (P : Value → AS → Prop) : Prop := ∀ va, nv va = a → GoV W F E σ (t va) P
noncomputable def Op2 (W : Wd) (F : Fm) (E : Value → Shared → Prop) (σ : AS) (a b : Value) (t : Value → Value → Sem Value) (P : Value → AS → Prop) : Prop := ∀ va vb, nv va = a → nv vb = b → GoV W F E σ (t va vb) P

section
variable {W : Wd} {F : Fm} {E : Value → Shared → Prop} {σ : AS} {α β : Type}
theorem Go.pure {a : α} {P : α → AS → Prop} (h : P a σ) : Go W F E σ (Pure.pure a) P := fun s m news R => wpAny_pure ⟨σ, m, news, h, R⟩
theorem goE {A : Around} {t : Sem α} {P : α → AS → Prop} {Q : α → Shared → Prop} {s : Shared} (h : wpAny (model W.prog W.w) A t (fun x s' => ∃ σ' m' news', P x σ' ∧ Rep F σ' s' m' news') E s)
    (k : ∀ v s' σ' m' n', P v σ' → Rep F σ' s' m' n' → Q v s') : wpAny (model W.prog W.w) A t Q E s :=
  wpAny_mono h (fun _ _ ⟨_, _, _, p, R⟩ => k _ _ _ _ _ p R) fun _ _ e => e
theorem Go.mono {t : Sem α} {P P' : α → AS → Prop} (h : Go W F E σ t P) (k : ∀ a σ', P a σ' → P' a σ') : Go W F E σ t P' := fun s m news R =>
  goE (h s m news R) (fun _ _ σ' m' n' p R' => ⟨σ', m', n', k _ _ p, R'⟩)
theorem Go.run {t : Sem α} {P : α → AS → Prop} {s : Shared} {m : Mp} {news : List (Addr × Obj)} (h : Go W F E σ t P) (R : Rep F σ s m news) :
    wpAny (model W.prog W.w) F.A t (fun x s' => ∃ σ' m' news', P x σ' ∧ Rep F σ' s' m' news') E s := h s m news R
end

theorem Rep.tok {F : Fm} {σ : AS} {s : Shared} {m : Mp} {news : List (Addr × Obj)} (R : Rep F σ s m news) (t : Nat) : Rep F σ { s with toks := t } m news :=
  ⟨R.toLed, R.fr, R.nw, R.bl, R.tn, R.bare, R.os⟩
theorem Rep.X {W : Wd} {F : Fm} {σ : AS} {s : Shared} {m : Mp} {news : List (Addr × Obj)} (R : Rep F σ s m news) (O : FmOk W F) : W.K.In m.g := O.X.keeps R.bl.stays
theorem Rep.T {W : Wd} {F : Fm} {σ : AS} {s : Shared} {m : Mp} {news : List (Addr × Obj)} (R : Rep F σ s m news) (O : FmOk W F) : TopRead W.p W.loose W.mg W.mb m.g := O.T.keeps R.bl.stays

section
variable {W : Wd} {F : Fm} {E : Value → Shared → Prop} {σ : AS}

/-! constants and names -/
theorem c_int {i : Int} {k pos} {P : Value → AS → Prop} (h : P (.int i 0) σ) : GoV W F E σ (eval (.Constant (.int i) k pos) F.env) P := fun s m news R =>
  wpAny_Constant_int ⟨σ, m, news, h, R.tok _⟩
theorem c_str {x : Str} {k pos} {P : Value → AS → Prop} (h : P (.str x 0) σ) : GoV W F E σ (eval (.Constant (.str x) k pos) F.env) P := fun s m news R =>
  wpAny_Constant_str ⟨σ, m, news, h, R.tok _⟩
theorem c_bool {b : Bool} {k pos} {P : Value → AS → Prop} (h : P (.bool b) σ) : GoV W F E σ (eval (.Constant (.bool b) k pos) F.env) P := fun s m news R =>
  wpAny_Constant_bool ⟨σ, m, news, h, R⟩
theorem c_none {k pos} {P : Value → AS → Prop} (h : P .none σ) : GoV W F E σ (eval (.Constant .none k pos) F.env) P := fun s m news R =>
  wpAny_Constant_none ⟨σ, m, news, h, R⟩

theorem n_loc (O : FmOk W F) {x : Str} {pos : Pos} {v : Value} {P : Value → AS → Prop} (hx : (x, some v) ∈ σ.loc) (h : P v σ) :
    GoV W F E σ (eval (.Name x pos) F.env) P := fun s m news R => by
  have hd := (R.knd _ hx).2
  rcases R.loc x v hx with ⟨hl, u, hu, rfl⟩ | ⟨hl, c, o, u, hc, ho, hod, rfl⟩
  · exact wpAny_Name (wpAny_loadName_local O.hk hl R.fr.ns hu ⟨σ, m, news, h, R⟩) hd
  · rcases hl with hl | ⟨hl, hn⟩
    · exact wpAny_Name (wpAny_loadName_cell O.hk hl hc ⟨o, (R.nw _ ho).1, hod⟩ ⟨σ, m, news, h, R⟩) hd
    · exact wpAny_Name (wpAny_loadName_free O.hk hl hc ⟨o, (R.nw _ ho).1, hod⟩ ⟨σ, m, news, h, R⟩ hn) hd

inductive GName (W : Wd) (x : Str) : Value → Prop
  | top {v : Value} : nsIn W.K mainGlobals x = some (some v) → GName W x (nv v)
  | bi {v : Value} : nsIn W.K mainGlobals x = some none → bootBuiltins x = some v → x ≠ "__name__" → GName W x (nv v)
noncomputable def Globs (W : Wd) (F : Fm) (gl : Fl) : Prop := ∀ p ∈ gl, F.env.kindOf p.1 = some .globalImplicit ∧ (p.1 == ("__debug__" : Str)) = false ∧ GName W p.1 p.2
theorem n_glob (O : FmOk W F) {gl : Fl} (G : Globs W F gl) {x : Str} {pos : Pos} {v : Value} {P : Value → AS → Prop} (hm : (x, v) ∈ gl) (h : P v σ) :
    GoV W F E σ (eval (.Name x pos) F.env) P := fun s m news R => by
  obtain ⟨hl, hd, hx⟩ := G _ hm
  dsimp only at hx hl hd
  cases hx with
  | top e => exact Name_function_global O.hk hl (loadGlobal_global (env := F.env) (by rw [O.hg]; exact (R.T O).g.keeps R.fr.keep) (mg_of (R.X O) (R.T O).g e) ⟨σ, m, news, h, R⟩) hd
  | bi e hv hn => exact Name_function_global O.hk hl (loadGlobal_builtin (env := F.env) (by rw [O.hg]; exact (R.T O).g.keeps R.fr.keep) (mg_none_of (R.X O) (R.T O).g e) (by rw [O.hb]; exact (R.T O).b.keeps R.fr.keep) (((R.T O).builtins x hn).trans hv) ⟨σ, m, news, h, R⟩) hd
end

end
/-! text MT -/
section

/-! tokens are never taken back -/
theorem runs_toks {M : Model} {Γ : Ctx} {p : Pos} {t : Sem Fin} {fs : List Frame} {s s' : Shared} {e : End} (h : Runs M Γ p t fs s e s') : s.toks ≤ s'.toks := by
  induction h with
  | fresh _ ih => exact Nat.le_trans (Nat.le_succ _) ih
  | call _ _ i1 i2 => exact Nat.le_trans i1 i2
  | resumeFresh _ _ _ _ i1 i2 => exact Nat.le_trans i1 i2
  | resumeSuspended _ _ _ _ i1 i2 => exact Nat.le_trans i1 i2
  | segRet _ _ i1 i2 => exact Nat.le_trans i1 i2
  | segGen _ _ i1 i2 => exact Nat.le_trans i1 i2
  | segSuspGen _ _ _ _ i1 i2 => exact Nat.le_trans i1 i2
  | done => exact Nat.le_refl _
  | raise => exact Nat.le_refl _
  | yield => exact Nat.le_refl _
  | _ => assumption
theorem wp_toks {α : Type} {M : Model} {Γ : Ctx} {n : Nat} : ∀ (t : Sem α) {Q : α → Pos → Shared → Prop} {E : Value → Pos → Shared → Prop} {p : Pos} {s : Shared}, n ≤ s.toks → Sem.wp M Γ t Q E p s →
    Sem.wp M Γ t (fun a p' s' => Q a p' s' ∧ n ≤ s'.toks) (fun e p' s' => E e p' s' ∧ n ≤ s'.toks) p s := by
  intro t
  induction t with
  | pure a => intro Q E p s hn h; exact ⟨h, hn⟩
  | raise e => intro Q E p s hn h; exact ⟨h, hn⟩
  | unsupported w => intro Q E p s hn h; exact h
  | finish w => intro Q E p s hn h; exact h
  | rule _ k ih => intro Q E p s hn h; exact ih () hn h
  | «at» _ k ih => intro Q E p s hn h; exact ih () hn h
  | load a _ k ih => intro Q E p s hn h; obtain ⟨o, h1, h2⟩ := h; exact ⟨o, h1, ih o hn h2⟩
  | update a _ f k ih => intro Q E p s hn h; exact ⟨h.1, ih () hn h.2⟩
  | loadIfAlive a k ih => intro Q E p s hn h; exact ih _ hn h
  | point _ k ih => intro Q E p s hn h; exact ih () hn h
  | register _ _ _ => intro Q E p s hn h; exact h
  | alloc o k ih => intro Q E p s hn h; exact ih _ hn h
  | fresh k ih => intro Q E p s hn h; exact ih _ (s := { s with toks := s.toks + 1 }) (Nat.le_succ_of_le hn) h
  | ask k ih => intro Q E p s hn h; exact ih _ hn h
  | choose src m k ih => intro Q E p s hn h; exact ⟨h.1, ih _ hn h.2⟩
  | os q _ k ih => intro Q E p s hn h; exact ih _ hn h
  | call c hd _ _ k ih =>
    intro Q E p s hn h
    obtain ⟨r, s', h1, h2⟩ := h
    exact ⟨r, s', h1, ih r (Nat.le_trans hn (runs_toks h1)) h2⟩
  | handled own k ih => intro Q E p s hn h; exact ih _ hn h
  | genState g k ih => intro Q E p s hn h; obtain ⟨st, h1, h2⟩ := h; exact ⟨st, h1, ih _ hn h2⟩
  | newGen c k ih => intro Q E p s hn h; exact ih _ hn h
  | resume g r _ k ih =>
    intro Q E p s hn h
    obtain ⟨res, s', h1, h2⟩ := h
    refine ⟨res, s', h1, ih res (Nat.le_trans hn ?_) h2⟩
    unfold Wakes at h1
    split at h1
    · exact h1.elim
    · split at h1
      · obtain ⟨e₁, s₁, h3, _, _, rfl⟩ := h1; have q := runs_toks h3; exact q
      · obtain ⟨_, rfl⟩ := h1; exact Nat.le_refl _
      · obtain ⟨_, rfl⟩ := h1; exact Nat.le_refl _
    · obtain ⟨e₁, s₁, h3, _, _, rfl⟩ := h1; have q := runs_toks h3; exact q
    · obtain ⟨_, rfl⟩ := h1; exact Nat.le_refl _
    · obtain ⟨_, rfl⟩ := h1; exact Nat.le_refl _
  | yield _ _ _ _ _ => intro Q E p s hn h; exact h
  | stack k ih => intro Q E p s hn h; exact ih _ hn h
  | fork _ _ _ => intro Q E p s hn h; exact h
  | thread k ih => intro Q E p s hn h; exact ih _ hn h
  | await _ _ _ _ _ _ => intro Q E p s hn h; exact h
theorem any_toks {α : Type} {M : Model} {A : Around} {n : Nat} {t : Sem α} {Q : α → Shared → Prop} {E : Value → Shared → Prop} {s : Shared} (hn : n ≤ s.toks) (h : wpAny M A t Q E s) :
    wpAny M A t (fun a s' => Q a s' ∧ n ≤ s'.toks) (fun e s' => E e s' ∧ n ≤ s'.toks) s := fun Γ p hΓ => wp_toks t hn (h Γ p hΓ)

noncomputable def GoK {α : Type} (W : Wd) (F : Fm) (E : Value → Shared → Prop) (k : Nat) (σ : AS) (t : Sem α) (P : α → AS → Prop) : Prop :=
  ∀ s m news, Rep F σ s m news → k ≤ s.toks → wpAny (model W.prog W.w) F.A t (fun x s' => ∃ σ' m' news', P x σ' ∧ Rep F σ' s' m' news') E s
noncomputable abbrev GoVK (W : Wd) (F : Fm) (E : Value → Shared → Prop) (k : Nat) (σ : AS) (t : Sem Value) (P : Value → AS → Prop) : Prop := GoK W F E k σ t fun v σ' => P (nv v) σ'
noncomputable abbrev GoFK (W : Wd) (F : Fm) (E : Value → Shared → Prop) (k : Nat) (σ : AS) (t : Sem Flow) (P : Flow → AS → Prop) : Prop := GoK W F E k σ t fun f σ' => P (nf f) σ'
section
variable {W : Wd} {F : Fm} {E : Value → Shared → Prop} {σ : AS} {α β : Type} {k : Nat}
theorem Go.atK {t : Sem α} {P : α → AS → Prop} (h : Go W F E σ t P) : GoK W F E k σ t P := fun s m news R _ => h s m news R
theorem GoK.go {t : Sem α} {P : α → AS → Prop} (h : GoK W F E 0 σ t P) : Go W F E σ t P := fun s m news R => h s m news R (Nat.zero_le _)
theorem goK {A : Around} {t : Sem α} {P : α → AS → Prop} {Q : α → Shared → Prop} {s : Shared} (hk : k ≤ s.toks) (h : wpAny (model W.prog W.w) A t (fun x s' => ∃ σ' m' news', P x σ' ∧ Rep F σ' s' m' news') E s)
    (c : ∀ v s' σ' m' n', P v σ' → Rep F σ' s' m' n' → k ≤ s'.toks → Q v s') : wpAny (model W.prog W.w) A t Q E s :=
  wpAny_mono (any_toks hk h) (fun _ _ ⟨⟨_, _, _, p, R⟩, q⟩ => c _ _ _ _ _ p R q) fun _ _ e => e.1
end

/-! trees that take a token -/
noncomputable def Strict {α : Type} (t : Sem α) : Prop := ∀ (M : Model) (Γ : Ctx) (Q : α → Pos → Shared → Prop) (E : Value → Pos → Shared → Prop) (p : Pos) (s : Shared), Sem.wp M Γ t Q E p s → Sem.wp M Γ t (fun a p' s' => Q a p' s' ∧ 1 ≤ s'.toks) E p s
section
variable {α β : Type}
theorem Strict.left {m : Sem α} (h : Strict m) (f : α → Sem β) : Strict (m >>= f) := fun M Γ Q E p s hw => by
  rw [Sem.wp_bind'] at hw ⊢
  exact Sem.wp_mono M Γ m (fun a p' s' h1 => Sem.wp_mono M Γ (f a) (fun _ _ _ x => x) (fun _ _ _ x => x.1) p' s' (wp_toks (f a) h1.2 h1.1)) (fun _ _ _ x => x) p s (h M Γ _ E p s hw)
theorem Strict.right (m : Sem α) {f : α → Sem β} (h : ∀ a, Strict (f a)) : Strict (m >>= f) := fun M Γ Q E p s hw => by
  rw [Sem.wp_bind'] at hw ⊢
  exact Sem.wp_mono M Γ m (fun a p' s' h1 => h a M Γ Q E p' s' h1) (fun _ _ _ x => x) p s hw
theorem Strict.hold {m : Sem α} (h : Strict m) (vs : List Value) : Strict (holding vs m) := fun M Γ Q E p s hw => by
  rw [Sem.wp_holding] at hw ⊢
  exact h M Γ Q E p s hw
theorem strict_str {x : Str} {k : Nat} {pos : Pos} {env : Env} : Strict (eval (.Constant (.str x) k pos) env) := fun M Γ Q E p s hw => ⟨hw, Nat.succ_le_succ (Nat.zero_le _)⟩
theorem strict_int {x : Int} {k : Nat} {pos : Pos} {env : Env} : Strict (eval (.Constant (.int x) k pos) env) := fun M Γ Q E p s hw => ⟨hw, Nat.succ_le_succ (Nat.zero_le _)⟩
theorem strict_call {pos : Pos} {f : Value} {first : List Value} {x : Sem Value} {r : List (Bool × Sem Value)} {ks : List (Option Str × Sem Value)} (h : Strict x) : Strict (callWith pos f first ((false, x) :: r) ks) := by
  unfold callWith
  refine Strict.left (Strict.hold ?_ _) _
  unfold evalArgs
  refine Strict.left ?_ _
  unfold spliced
  exact Strict.left h _
end
section
variable {M : Model} {A : Around} {α : Type} {t : Sem α} {Q : α → Shared → Prop} {E : Value → Shared → Prop} {s : Shared}
theorem Strict.any (h : Strict t) (hw : wpAny M A t Q E s) : wpAny M A t (fun a s' => Q a s' ∧ 1 ≤ s'.toks) E s := fun Γ p hΓ => h M Γ _ _ p s (hw Γ p hΓ)
end
theorem strict_meth {o : Expr} {n : Str} {ap pos : Pos} {as : List Expr} {ks : List Keyword} {env : Env} {x : Sem Value} {r : List (Bool × Sem Value)} {pl : Sem Bool} (hx : Strict x) (e : backTo pos (starEach as env) = (false, x) :: r)
    (he : eval (.Call (.Attribute o n ap) as ks pos) env = (do
      let ov ← eval o env
      standAt ap.atName
      let (f, first) ← holding [ov] (getMethod ov n pl)
      callWith pos f first (backTo pos (starEach as env)) (backToKw pos (keywordEach ks env))) := by rfl) : Strict (eval (.Call (.Attribute o n ap) as ks pos) env) := by
  rw [he, e]
  exact .right _ fun ov => .right _ fun _ => .right _ fun f => strict_call hx
theorem strict_name {f : Str} {np pos : Pos} {as : List Expr} {ks : List Keyword} {env : Env} {x : Sem Value} {r : List (Bool × Sem Value)} (hx : Strict x) (e : backTo pos (starEach as env) = (false, x) :: r) : Strict (eval (.Call (.Name f np) as ks pos) env) := by
  show Strict (do callWith pos (← eval (.Name f np) env) [] (backTo pos (starEach as env)) (backToKw pos (keywordEach ks env)))
  rw [e]
  exact .right _ fun f => strict_call hx

end
/-! text M1 -/
section

theorem Rep.toks {F : Fm} {σ : AS} {s : Shared} {m : Mp} {news : List (Addr × Obj)} (R : Rep F σ s m news) {s' : Shared} (e : s' = { s with toks := s'.toks }) : Rep F σ s' m news := by
  rw [e]; exact R.tok _

section
variable {W : Wd} {F : Fm} {E : Value → Shared → Prop} {σ : AS} {α : Type}

/-! tests -/
noncomputable def Cmp (W : Wd) (F : Fm) (E : Value → Shared → Prop) (σ : AS) (op : CmpOp) (a b : Value) (P : Bool → AS → Prop) : Prop :=
  ∀ va vb, nv va = a → nv vb = b → Go W F E σ (compareOp op va vb) fun v σ' => ∃ c, v = .bool c ∧ P c σ'
noncomputable def Tru (W : Wd) (F : Fm) (E : Value → Shared → Prop) (σ : AS) (v : Value) (P : Bool → AS → Prop) : Prop := ∀ va, nv va = v → Go W F E σ (truthy va) P
noncomputable def Sel (c : Bool) (a b : Prop) : Prop := (c = true → a) ∧ (c = false → b)
theorem sel_t {c : Bool} {a b : Prop} (h : c = true) (k : a) : Sel c a b := ⟨fun _ => k, fun e => by (rw [h] at e; cases e)⟩
theorem sel_f {c : Bool} {a b : Prop} (h : c = false) (k : b) : Sel c a b := ⟨fun e => by (rw [h] at e; cases e), fun _ => k⟩
theorem Sel.ite {c : Bool} {a b a' b' : Prop} (h : Sel c a b) (ha : a → a') (hb : b → b') : if c = true then a' else b' := by
  cases c with
  | true => exact ha (h.1 rfl)
  | false => exact hb (h.2 rfl)

/-! what is done behind a value, by name (so that a step's term names it, and does not write it out anew) -/
section
variable (W : Wd) (F : Fm) (E : Value → Shared → Prop)
noncomputable abbrev kGV (e : Expr) (K : Value → Value → AS → Prop) : Value → AS → Prop := fun a σ₁ => GoV W F E σ₁ (eval e F.env) (K a)
noncomputable abbrev kCmp (op : CmpOp) (P : Bool → AS → Prop) : Value → Value → AS → Prop := fun a b σ₂ => Cmp W F E σ₂ op a b P
noncomputable abbrev kB (P : Value → AS → Prop) : Bool → AS → Prop := fun c => P (.bool c)
noncomputable abbrev kN (P : Bool → AS → Prop) : Bool → AS → Prop := fun c => P (!c)
noncomputable abbrev kNB (P : Value → AS → Prop) : Bool → AS → Prop := fun c => P (.bool (!c))
noncomputable abbrev kTru (P : Bool → AS → Prop) : Value → AS → Prop := fun v σ₁ => Tru W F E σ₁ v P
noncomputable abbrev kAnd (whole : Sem Value) (e : Expr) (P : Bool → AS → Prop) : Bool → AS → Prop := fun c σ₁ => Sel c (Go W F E σ₁ (isTrue e F.env whole) P) (P false σ₁)
noncomputable abbrev kOr (whole : Sem Value) (e : Expr) (P : Bool → AS → Prop) : Bool → AS → Prop := fun c σ₁ => Sel c (P true σ₁) (Go W F E σ₁ (isTrue e F.env whole) P)
noncomputable abbrev kIf (b o : Expr) (P : Value → AS → Prop) : Bool → AS → Prop := fun c σ₁ => Sel c (GoV W F E σ₁ (eval b F.env) P) (GoV W F E σ₁ (eval o F.env) P)
noncomputable abbrev kOp2 (t : Value → Value → Sem Value) (P : Value → AS → Prop) : Value → Value → AS → Prop := fun a b σ₂ => Op2 W F E σ₂ a b t P
noncomputable abbrev kOp1 (t : Value → Sem Value) (P : Value → AS → Prop) : Value → AS → Prop := fun a σ₁ => Op1 W F E σ₁ a t P
noncomputable abbrev kVAnd2 (e : Expr) (P : Value → AS → Prop) (v : Value) : Bool → AS → Prop := fun c σ₂ => Sel c (GoV W F E σ₂ (eval e F.env) P) (P v σ₂)
noncomputable abbrev kVAnd (e : Expr) (P : Value → AS → Prop) : Value → AS → Prop := fun v σ₁ => Tru W F E σ₁ v (kVAnd2 W F E e P v)
noncomputable abbrev kVOr2 (e : Expr) (P : Value → AS → Prop) (v : Value) : Bool → AS → Prop := fun c σ₂ => Sel c (P v σ₂) (GoV W F E σ₂ (eval e F.env) P)
noncomputable abbrev kVOr (e : Expr) (P : Value → AS → Prop) : Value → AS → Prop := fun v σ₁ => Tru W F E σ₁ v (kVOr2 W F E e P v)
noncomputable abbrev kSIf (b o : List Stmt) (P : Flow → AS → Prop) : Bool → AS → Prop := fun c σ₁ => Sel c (GoF W F E σ₁ (execs b F.env) P) (GoF W F E σ₁ (execs o F.env) P)
noncomputable abbrev kRet (P : Flow → AS → Prop) : Value → AS → Prop := fun v => P (.ret v)
noncomputable abbrev kCst (P : Flow → AS → Prop) : Value → AS → Prop := fun _ => P .next
end

theorem t_cmp {l op r pos} {P : Bool → AS → Prop} (h : GoV W F E σ (eval l F.env) (kGV W F E r (kCmp W F E op P)))
    (hm : behindInMarks op r = false := by with_unfolding_all rfl) : Go W F E σ (isTrue (.Compare l [op] [r] pos) F.env (eval (.Compare l [op] [r] pos) F.env)) P := fun s m news R => by
  refine wpAny_isTrue_Compare1 (goE (h s m news R) (fun a s₁ σ₁ m₁ n₁ h₁ R₁ => goE (h₁ s₁ m₁ n₁ R₁) (fun b s₂ σ₂ m₂ n₂ h₂ R₂ => goE (h₂ a b rfl rfl s₂ m₂ n₂ R₂) (fun v s₃ σ₃ m₃ n₃ h₃ R₃ => ?_)))) hm
  obtain ⟨c, rfl, p⟩ := h₃
  exact wpAny_truthy_bool ⟨σ₃, m₃, n₃, p, R₃⟩
theorem t_val {e : Expr} {P : Bool → AS → Prop} (h : GoV W F E σ (eval e F.env) (kTru W F E P))
    (he : ∀ whole, isTrue e F.env whole = (do let v ← whole; standAt e.pos; holding [v] (truthy v)) := by intro _; rfl) : Go W F E σ (isTrue e F.env (eval e F.env)) P := fun s m news R =>
  isTrue_plain (goE (h s m news R) (fun v s₁ σ₁ m₁ n₁ h₁ R₁ => h₁ v rfl s₁ m₁ n₁ R₁)) (he _)
theorem t_not {x pos} {P : Bool → AS → Prop} (h : Go W F E σ (isTrue x F.env (eval x F.env)) (kN P)) : Go W F E σ (isTrue (.UnaryOp .Not x pos) F.env (eval (.UnaryOp .Not x pos) F.env)) P := fun s m news R =>
  isTrue_not (h s m news R)
theorem t_and_nil {pos whole} {P : Bool → AS → Prop} (h : P true σ) : Go W F E σ (isTrue (.BoolOp .And [] pos) F.env whole) P := fun s m news R => isTrue_and_nil ⟨σ, m, news, h, R⟩
theorem t_or_nil {pos whole} {P : Bool → AS → Prop} (h : P false σ) : Go W F E σ (isTrue (.BoolOp .Or [] pos) F.env whole) P := fun s m news R => isTrue_or_nil ⟨σ, m, news, h, R⟩
theorem t_and {x rest pos whole} {P : Bool → AS → Prop} (h : Go W F E σ (isTrue x F.env (eval x F.env)) (kAnd W F E whole (.BoolOp .And rest pos) P)) :
    Go W F E σ (isTrue (.BoolOp .And (x :: rest) pos) F.env whole) P := fun s m news R =>
  isTrue_and (goE (h s m news R) (fun c s₁ σ₁ m₁ n₁ h₁ R₁ => h₁.ite (fun z => z s₁ m₁ n₁ R₁) fun z => ⟨σ₁, m₁, n₁, z, R₁⟩))
theorem t_or {x rest pos whole} {P : Bool → AS → Prop} (h : Go W F E σ (isTrue x F.env (eval x F.env)) (kOr W F E whole (.BoolOp .Or rest pos) P)) :
    Go W F E σ (isTrue (.BoolOp .Or (x :: rest) pos) F.env whole) P := fun s m news R =>
  isTrue_or (goE (h s m news R) (fun c s₁ σ₁ m₁ n₁ h₁ R₁ => h₁.ite (fun z => ⟨σ₁, m₁, n₁, z, R₁⟩) fun z => z s₁ m₁ n₁ R₁))
theorem v_if {t b o pos} {P : Value → AS → Prop} (h : Go W F E σ (isTrue t F.env (eval t F.env)) (kIf W F E b o P)) :
    GoV W F E σ (eval (.IfExp t b o pos) F.env) P := fun s m news R =>
  IfExp_ (goE (h s m news R) (fun c s₁ σ₁ m₁ n₁ h₁ R₁ => h₁.ite (fun z => z s₁ m₁ n₁ R₁) fun z => z s₁ m₁ n₁ R₁))
theorem v_bin {l op r pos} {P : Value → AS → Prop} (h : GoV W F E σ (eval l F.env) (kGV W F E r (kOp2 W F E (binaryOp op) P))) :
    GoV W F E σ (eval (.BinOp l op r pos) F.env) P := fun s m news R =>
  wpAny_BinOp (goE (h s m news R) (fun a s₁ σ₁ m₁ n₁ h₁ R₁ => goE (h₁ s₁ m₁ n₁ R₁) (fun b s₂ σ₂ m₂ n₂ h₂ R₂ => h₂ a b rfl rfl s₂ m₂ n₂ R₂)))
theorem v_neg {x pos} {P : Value → AS → Prop} (h : GoV W F E σ (eval x F.env) (kOp1 W F E (unaryOp .USub) P)) : GoV W F E σ (eval (.UnaryOp .USub x pos) F.env) P := fun s m news R =>
  UnaryOp_ (goE (h s m news R) (fun v s₁ σ₁ m₁ n₁ h₁ R₁ => h₁ v rfl s₁ m₁ n₁ R₁))
/-! leaves: comparisons, truth, arithmetic -/
section
variable {x y : Str} {a b : Int} {t u : Tok}
theorem x_eq_str {P : Bool → AS → Prop} (h : P (x == y) σ) : Cmp W F E σ .Eq (.str x t) (.str y u) P := fun va vb ha hb s m news R => by
  obtain ⟨_, rfl⟩ := nv_str ha; obtain ⟨_, rfl⟩ := nv_str hb
  exact PyProof.Rows.eq_str ⟨σ, m, news, ⟨_, rfl, h⟩, R⟩
theorem x_ne_str {P : Bool → AS → Prop} (h : P (x != y) σ) : Cmp W F E σ .NotEq (.str x t) (.str y u) P := fun va vb ha hb s m news R => by
  obtain ⟨_, rfl⟩ := nv_str ha; obtain ⟨_, rfl⟩ := nv_str hb
  exact PyProof.Rows.ne_str ⟨σ, m, news, ⟨_, rfl, h⟩, R⟩
theorem x_in_str {P : Bool → AS → Prop} (h : P (!(Builtin.Str.occurrences x y 0 x.length 1).isEmpty) σ) : Cmp W F E σ .In (.str y u) (.str x t) P := fun va vb ha hb s m news R => by
  obtain ⟨_, rfl⟩ := nv_str ha; obtain ⟨_, rfl⟩ := nv_str hb
  exact PySem.P.in_str ⟨σ, m, news, ⟨_, rfl, h⟩, R⟩
theorem x_notin_str {P : Bool → AS → Prop} (h : P (!(!(Builtin.Str.occurrences x y 0 x.length 1).isEmpty)) σ) : Cmp W F E σ .NotIn (.str y u) (.str x t) P := fun va vb ha hb s m news R => by
  obtain ⟨_, rfl⟩ := nv_str ha; obtain ⟨_, rfl⟩ := nv_str hb
  exact PySem.P.notIn_str ⟨σ, m, news, ⟨_, rfl, h⟩, R⟩
theorem x_eq_int {P : Bool → AS → Prop} (h : P (a == b) σ) : Cmp W F E σ .Eq (.int a t) (.int b u) P := fun va vb ha hb s m news R => by
  obtain ⟨_, rfl⟩ := nv_int ha; obtain ⟨_, rfl⟩ := nv_int hb
  exact PySem.P.eq_int ⟨σ, m, news, ⟨_, rfl, h⟩, R⟩
theorem x_ne_int {P : Bool → AS → Prop} (h : P (a != b) σ) : Cmp W F E σ .NotEq (.int a t) (.int b u) P := fun va vb ha hb s m news R => by
  obtain ⟨_, rfl⟩ := nv_int ha; obtain ⟨_, rfl⟩ := nv_int hb
  exact PySem.P.ne_int ⟨σ, m, news, ⟨_, rfl, h⟩, R⟩
theorem x_lt_int {P : Bool → AS → Prop} (h : P (decide (a < b)) σ) : Cmp W F E σ .Lt (.int a t) (.int b u) P := fun va vb ha hb s m news R => by
  obtain ⟨_, rfl⟩ := nv_int ha; obtain ⟨_, rfl⟩ := nv_int hb
  exact PySem.P.lt_int ⟨σ, m, news, ⟨_, rfl, h⟩, R⟩
theorem x_gt_int {P : Bool → AS → Prop} (h : P (decide (a > b)) σ) : Cmp W F E σ .Gt (.int a t) (.int b u) P := fun va vb ha hb s m news R => by
  obtain ⟨_, rfl⟩ := nv_int ha; obtain ⟨_, rfl⟩ := nv_int hb
  exact PySem.P.gt_int ⟨σ, m, news, ⟨_, rfl, h⟩, R⟩
theorem x_ge_int {P : Bool → AS → Prop} (h : P (decide (a ≥ b)) σ) : Cmp W F E σ .GtE (.int a t) (.int b u) P := fun va vb ha hb s m news R => by
  obtain ⟨_, rfl⟩ := nv_int ha; obtain ⟨_, rfl⟩ := nv_int hb
  exact PySem.P.ge_int ⟨σ, m, news, ⟨_, rfl, h⟩, R⟩
noncomputable def isNoneV : Value → Bool
  | .none => true
  | _ => false
theorem nv_none_beq (v : Value) : (v == Value.none) = isNoneV (nv v) := by cases v <;> rfl
theorem x_is_none {v : Value} {P : Bool → AS → Prop} (h : P (isNoneV v) σ) : Cmp W F E σ .Is v .none P := fun va vb ha hb s m news R => by
  obtain rfl := nv_none hb; subst ha
  exact is_none_gen ⟨σ, m, news, ⟨_, rfl, by rw [nv_none_beq]; exact h⟩, R⟩
theorem x_isnot_none {v : Value} {P : Bool → AS → Prop} (h : P (!isNoneV v) σ) : Cmp W F E σ .IsNot v .none P := fun va vb ha hb s m news R => by
  obtain rfl := nv_none hb; subst ha
  exact isnot_none_gen ⟨σ, m, news, ⟨_, rfl, by rw [nv_none_beq]; exact h⟩, R⟩
theorem r_bool {c : Bool} {P : Bool → AS → Prop} (h : P c σ) : Tru W F E σ (.bool c) P := fun va ha s m news R => by
  obtain rfl := nv_bool ha; exact wpAny_truthy_bool ⟨σ, m, news, h, R⟩
theorem r_str {P : Bool → AS → Prop} (hx : x.length ≤ sizeLine) (h : P ((x.length : Int) != 0) σ) : Tru W F E σ (.str x t) P := fun va ha s m news R => by
  obtain ⟨_, rfl⟩ := nv_str ha
  exact PySem.P.truthy_str (by have := hx; rw [sizeLine_eq] at this; omega) ⟨σ, m, news, h, R.tok _⟩
theorem o_add {P : Value → AS → Prop} (h : P (.int (a + b) 0) σ) : Op2 W F E σ (.int a t) (.int b u) (binaryOp .Add) P := fun va vb ha hb s m news R => by
  obtain ⟨_, rfl⟩ := nv_int ha; obtain ⟨_, rfl⟩ := nv_int hb
  exact PySem.P.add_int ⟨σ, m, news, h, R.tok _⟩
theorem o_sub {P : Value → AS → Prop} (h : P (.int (a - b) 0) σ) : Op2 W F E σ (.int a t) (.int b u) (binaryOp .Sub) P := fun va vb ha hb s m news R => by
  obtain ⟨_, rfl⟩ := nv_int ha; obtain ⟨_, rfl⟩ := nv_int hb
  exact PySem.P.sub_int ⟨σ, m, news, h, R.tok _⟩
theorem o_mul {P : Value → AS → Prop} (hm : IntMulOk a b) (h : P (.int (a * b) 0) σ) : Op2 W F E σ (.int a t) (.int b u) (binaryOp .Mult) P := fun va vb ha hb s m news R => by
  obtain ⟨_, rfl⟩ := nv_int ha; obtain ⟨_, rfl⟩ := nv_int hb
  exact PySem.P.mul_int ⟨σ, m, news, h, R.tok _⟩ hm
theorem o_neg {P : Value → AS → Prop} (h : P (.int (-a) 0) σ) : Op1 W F E σ (.int a t) (unaryOp .USub) P := fun va ha s m news R => by
  obtain ⟨_, rfl⟩ := nv_int ha
  exact PySem.P.neg_int ⟨σ, m, news, h, R.tok _⟩
end

/-! statements -/
noncomputable def Nx (W : Wd) (F : Fm) (E : Value → Shared → Prop) (rest : List Stmt) (P : Flow → AS → Prop) (f : Flow) (σ : AS) : Prop := match f with
  | .next => GoF W F E σ (execs rest F.env) P
  | f => P f σ
theorem s_nil {P : Flow → AS → Prop} (h : P .next σ) : GoF W F E σ (execs [] F.env) P := fun s m news R => wpAny_execs_nil ⟨σ, m, news, h, R⟩
theorem s_cons {st rest} {P : Flow → AS → Prop} (h : GoF W F E σ (exec st F.env) (Nx W F E rest P)) : GoF W F E σ (execs (st :: rest) F.env) P := fun s m news R => by
  refine wpAny_execs_cons (goE (h s m news R) (fun f s₁ σ₁ m₁ n₁ h₁ R₁ => ?_))
  cases f with
  | next => exact h₁ s₁ m₁ n₁ R₁
  | brk => exact ⟨σ₁, m₁, n₁, h₁, R₁⟩
  | cont => exact ⟨σ₁, m₁, n₁, h₁, R₁⟩
  | ret v => exact ⟨σ₁, m₁, n₁, h₁, R₁⟩
theorem s_if {t b o pos} {P : Flow → AS → Prop} (h : Go W F E σ (isTrue t F.env (eval t F.env)) (kSIf W F E b o P)) :
    GoF W F E σ (exec (.If t b o pos) F.env) P := fun s m news R =>
  wpAny_If (goE (h s m news R) (fun c s₁ σ₁ m₁ n₁ h₁ R₁ => h₁.ite (fun z => z s₁ m₁ n₁ R₁) fun z => z s₁ m₁ n₁ R₁))
theorem s_ret {e pos} {P : Flow → AS → Prop} (h : GoV W F E σ (eval e F.env) (kRet P)) : GoF W F E σ (exec (.Return (some e) pos) F.env) P := fun s m news R =>
  wpAny_Return_some (h s m news R)
theorem s_brk {pos} {P : Flow → AS → Prop} (h : P .brk σ) : GoF W F E σ (exec (.Break pos) F.env) P := fun s m news R => wpAny_Break ⟨σ, m, news, h, R⟩
theorem s_cont {pos} {P : Flow → AS → Prop} (h : P .cont σ) : GoF W F E σ (exec (.Continue pos) F.env) P := fun s m news R => wpAny_Continue ⟨σ, m, news, h, R⟩
theorem s_expr {e pos} {P : Flow → AS → Prop} (h : GoV W F E σ (eval e F.env) (kCst P)) (hi : interactive F.env = false) (hs : swapsWith e none pos.line F.env = pure false := by rfl) :
    GoF W F E σ (exec (.Expr e pos) F.env) P := fun s m news R => wpAny_Expr_any (h s m news R) hi hs
theorem s_assert {t msg pos} {P : Flow → AS → Prop} (h : Go W F E σ (isTrue t F.env (eval t F.env)) fun c σ₁ => c = true ∧ P .next σ₁) : GoF W F E σ (exec (.Assert t msg pos) F.env) P := fun s m news R =>
  wpAny_Assert_holds (goE (h s m news R) (fun c s₁ σ₁ m₁ n₁ h₁ R₁ => ⟨h₁.1, σ₁, m₁, n₁, h₁.2, R₁⟩))
end

end
/-! text M2 -/
section

/-! the ledger without one address -/
noncomputable def drop (d : Addr) (news : List (Addr × Obj)) : List (Addr × Obj) := news.filter fun p => p.1 != d
theorem mem_drop {d : Addr} {news : List (Addr × Obj)} {p : Addr × Obj} (h : p ∈ news) (hd : p.1 ≠ d) : p ∈ drop d news := List.mem_filter.mpr ⟨h, by simpa using hd⟩
theorem drop_mem {d : Addr} {news : List (Addr × Obj)} {p : Addr × Obj} (h : p ∈ drop d news) : p ∈ news ∧ p.1 ≠ d := ⟨(List.mem_filter.mp h).1, by simpa using (List.mem_filter.mp h).2⟩
theorem OAt.to {n n' : List (Addr × Obj)} {a : Addr} {x : AO} (h : OAt n a x) (k : ∀ p ∈ n, p.1 ∈ x.addrs a → p ∈ n') : OAt n' a x := by
  cases x with
  | inst C d fs => obtain ⟨sl, es, m, h1, h2, h3⟩ := h; exact ⟨sl, es, m, k _ h1 (by simp [AO.addrs]), k _ h2 (by simp [AO.addrs]), h3⟩
  | list xs => obtain ⟨vs, m, h1, h2⟩ := h; exact ⟨vs, m, k _ h1 (by simp [AO.addrs]), h2⟩
  | raw o => exact k _ h (by simp [AO.addrs])
theorem OAt.ex {n : List (Addr × Obj)} {a : Addr} {x : AO} (h : OAt n a x) {b : Addr} (hb : b ∈ x.addrs a) : ∃ o, (b, o) ∈ n := by
  cases x with
  | inst C d fs =>
    obtain ⟨sl, es, m, h1, h2, h3⟩ := h
    simp only [AO.addrs, List.mem_cons, List.not_mem_nil, or_false] at hb
    rcases hb with rfl | rfl
    · exact ⟨_, h1⟩
    · exact ⟨_, h2⟩
  | list xs => obtain ⟨vs, m, h1, h2⟩ := h; simp only [AO.addrs, List.mem_singleton] at hb; subst hb; exact ⟨_, h1⟩
  | raw o => simp only [AO.addrs, List.mem_singleton] at hb; subst hb; exact ⟨_, h⟩

inductive Put (x : Str) (v : Value) : Lc → Lc → Prop
  | head {u r} : Put x v ((x, u) :: r) ((x, some v) :: r)
  | tail {p r r'} : Put x v r r' → Put x v (p :: r) (p :: r')
theorem Put.names {x v l l'} (h : Put x v l l') : l'.map (·.1) = l.map (·.1) := by
  induction h with
  | head => rfl
  | tail _ ih => simp [ih]
theorem Put.mem {x v l l'} (h : Put x v l l') : x ∈ l.map (·.1) := by
  induction h with
  | head => simp
  | tail _ ih => simp [ih]
theorem Put.old {x v l l'} (h : Put x v l l') (hn : (l.map (·.1)).Nodup) : ∀ p ∈ l', (p.1 = x ∧ p.2 = some v) ∨ (p.1 ≠ x ∧ p ∈ l) := by
  induction h with
  | head =>
    intro p hp
    rcases List.mem_cons.mp hp with rfl | hp
    · exact .inl ⟨rfl, rfl⟩
    · simp only [List.map_cons, List.nodup_cons] at hn
      exact .inr ⟨fun e => hn.1 (e ▸ List.mem_map_of_mem hp), List.mem_cons_of_mem _ hp⟩
  | tail h ih =>
    intro p hp
    simp only [List.map_cons, List.nodup_cons] at hn
    rcases List.mem_cons.mp hp with rfl | hp
    · exact .inr ⟨fun e => hn.1 (e ▸ h.mem), List.mem_cons_self ..⟩
    · rcases ih hn.2 p hp with q | q
      · exact .inl q
      · exact .inr ⟨q.1, List.mem_cons_of_mem _ q.2⟩

inductive PutO (a : Addr) (x x' : AO) : List (Addr × AO) → List (Addr × AO) → Prop
  | head {r} : PutO a x x' ((a, x) :: r) ((a, x') :: r)
  | tail {p r r'} : PutO a x x' r r' → PutO a x x' (p :: r) (p :: r')
theorem PutO.addrs {a x x' l l'} (h : PutO a x x' l l') (e : x'.addrs a = x.addrs a) : addrsOf l' = addrsOf l := by
  induction h with
  | head => simp [addrsOf, e]
  | tail _ ih => simp only [addrsOf, List.flatMap_cons] at ih ⊢; rw [ih]
theorem PutO.mem {a x x' l l'} (h : PutO a x x' l l') : (a, x) ∈ l := by
  induction h with
  | head => simp
  | tail _ ih => exact List.mem_cons_of_mem _ ih
theorem PutO.got {a x x' l l'} (h : PutO a x x' l l') : (a, x') ∈ l' := by
  induction h with
  | head => simp
  | tail _ ih => exact List.mem_cons_of_mem _ ih
theorem mem_addrsOf {l : List (Addr × AO)} {p : Addr × AO} (h : p ∈ l) {b : Addr} (hb : b ∈ p.2.addrs p.1) : b ∈ addrsOf l := List.mem_flatMap.mpr ⟨p, h, hb⟩
theorem PutO.old {a x x' l l'} (h : PutO a x x' l l') (hn : (addrsOf l).Nodup) : ∀ p ∈ l', p = (a, x') ∨ (p ∈ l ∧ ∀ b ∈ p.2.addrs p.1, b ∉ x.addrs a) := by
  induction h with
  | head =>
    intro p hp
    simp only [addrsOf, List.flatMap_cons, List.nodup_append] at hn
    rcases List.mem_cons.mp hp with rfl | hp
    · exact .inl rfl
    · exact .inr ⟨List.mem_cons_of_mem _ hp, fun b hb hb' => hn.2.2 b hb' b (mem_addrsOf hp hb) rfl⟩
  | @tail q r r' h ih =>
    intro p hp
    simp only [addrsOf, List.flatMap_cons, List.nodup_append] at hn
    rcases List.mem_cons.mp hp with rfl | hp
    · exact .inr ⟨List.mem_cons_self .., fun b hb hb' => hn.2.2 b hb b (mem_addrsOf (p := (a, x)) h.mem hb') rfl⟩
    · rcases ih hn.2.1 p hp with e | e
      · exact .inl e
      · exact .inr ⟨List.mem_cons_of_mem _ e.1, e.2⟩

section
variable {W : Wd} {F : Fm} {E : Value → Shared → Prop} {σ : AS} {s : Shared} {m : Mp} {news : List (Addr × Obj)}

theorem Rep.nd (R : Rep F σ s m news) : (addrsOf σ.obj).Nodup := (List.nodup_append.mp (List.nodup_append.mp R.apart).2.1).1
theorem Rep.cellApart' (R : Rep F σ s m news) {p : Str × Addr} (hc : p ∈ F.env.cells) : p.2 ∉ addrsOf σ.obj ∧ p.2 ∉ F.rest.map (·.1) := by
  have := (List.nodup_append.mp R.apart).2.2 p.2 (List.mem_map.mpr ⟨p, hc, rfl⟩)
  exact ⟨fun h => this p.2 (List.mem_append_left _ h) rfl, fun h => this p.2 (List.mem_append_right _ h) rfl⟩
theorem Rep.restApart (R : Rep F σ s m news) {b : Addr} (hb : b ∈ addrsOf σ.obj) : b ∉ F.rest.map (·.1) := fun h =>
  (List.nodup_append.mp (List.nodup_append.mp R.apart).2.1).2.2 b hb b h rfl
theorem LocAt.to {m : Str → Option Value} {env : Env} {n n' : List (Addr × Obj)} {x : Str} {v : Value} (h : LocAt env m n x v) (k : ∀ c o, env.cells.lookup x = some c → (c, o) ∈ n → (c, o) ∈ n') : LocAt env m n' x v :=
  h.imp id fun ⟨hl, c, o, u, hc, ho, r⟩ => ⟨hl, c, o, u, hc, k c o hc ho, r⟩

theorem Rep.putO (R : Rep F σ s m news) {a d : Addr} {x x' : AO} {l' : List (Addr × AO)} (U : PutO a x x' σ.obj l') (e : x'.addrs a = x.addrs a) (hd : d ∈ x.addrs a) {o' : Obj} {h' : Heap} {t : Nat}
    (Fr' : Fr m.g F.env.locals h' m.m) (N' : News m.g F.env.locals h' ((d, o') :: drop d news)) (hx : OAt ((d, o') :: drop d news) a x') :
    Rep F ⟨σ.loc, l'⟩ { s with heap := h', toks := t } m ((d, o') :: drop d news) := by
  have hds : d ∈ addrsOf σ.obj := mem_addrsOf (p := (a, x)) U.mem hd
  have kc : ∀ p ∈ F.env.cells, ∀ o, (p.2, o) ∈ news → (p.2, o) ∈ (d, o') :: drop d news := fun p hc o ho =>
    List.mem_cons_of_mem _ (mem_drop ho fun q => (R.cellApart' hc).1 ((show p.2 = d from q) ▸ hds))
  refine ⟨⟨fun y v hy => (R.loc y v hy).to fun c o hc => kc (y, c) (mem_of_lookup hc) o, R.knd, R.nod, fun p hc => ?_, fun p hp => ?_, fun p hp => ?_, ?_⟩, Fr', N', R.bl, R.tn, R.bare, R.os⟩
  · obtain ⟨o, u, ho, hu⟩ := R.cel p hc
    exact ⟨o, u, kc p hc o ho, hu⟩
  · rcases U.old R.nd p hp with rfl | ⟨hp', hne⟩
    · exact hx
    · exact (R.obj p hp').to fun q hq hb => List.mem_cons_of_mem _ (mem_drop hq fun z => hne _ hb (z ▸ hd))
  · exact List.mem_cons_of_mem _ (mem_drop (R.rst p hp) fun z => R.restApart hds (List.mem_map.mpr ⟨p, hp, z⟩))
  · rw [show addrsOf (AS.mk σ.loc l').obj = addrsOf σ.obj from U.addrs e]; exact R.apart

theorem Rep.add (R : Rep F σ s m news) {a : Addr} {x : AO} {add : List (Addr × Obj)} {h' : Heap} {t : Nat} (Fr' : Fr m.g F.env.locals h' m.m) (N' : News m.g F.env.locals h' (add ++ news))
    (hn : (x.addrs a).Nodup) (fresh : ∀ b ∈ x.addrs a, ∀ o, (b, o) ∉ news) (hx : OAt (add ++ news) a x) : Rep F ⟨σ.loc, (a, x) :: σ.obj⟩ { s with heap := h', toks := t } m (add ++ news) := by
  refine ⟨⟨fun y v hy => (R.loc y v hy).to fun c o _ ho => List.mem_append_right _ ho, R.knd, R.nod, fun q hc => ?_, fun p hp => ?_, fun p hp => List.mem_append_right _ (R.rst p hp), ?_⟩, Fr', N', R.bl, R.tn, R.bare, R.os⟩
  · obtain ⟨o, u, ho, hu⟩ := R.cel q hc
    exact ⟨o, u, List.mem_append_right _ ho, hu⟩
  · rcases List.mem_cons.mp hp with rfl | hp
    · exact hx
    · exact (R.obj p hp).to fun q hq _ => List.mem_append_right _ hq
  · have A1 := List.nodup_append.mp R.apart
    have e : addrsOf (AS.mk σ.loc ((a, x) :: σ.obj)).obj = x.addrs a ++ addrsOf σ.obj := by simp [addrsOf]
    rw [e, List.append_assoc]
    refine List.nodup_append.mpr ⟨A1.1, List.nodup_append.mpr ⟨hn, A1.2.1, fun b hb b' hb' q => ?_⟩, fun c hc b hb q => ?_⟩
    · subst q
      rcases List.mem_append.mp hb' with hb' | hb'
      · obtain ⟨p, hp, hb'⟩ := List.mem_flatMap.mp hb'
        obtain ⟨o, ho⟩ := (R.obj p hp).ex hb'
        exact fresh b hb o ho
      · obtain ⟨p, hp, rfl⟩ := List.mem_map.mp hb'
        exact fresh _ hb p.2 (R.rst p hp)
    · subst q
      rcases List.mem_append.mp hb with hb | hb
      · obtain ⟨q, hm, rfl⟩ := List.mem_map.mp hc
        obtain ⟨o, u, ho, hu⟩ := R.cel q hm
        exact fresh _ hb o ho
      · exact A1.2.2 c hc c hb rfl
/-! a new object that nobody keeps -/
theorem Led.junk {m : Str → Option Value} (R : Led F σ m news) (add : List (Addr × Obj)) : Led F σ m (add ++ news) :=
  ⟨fun y v hy => (R.loc y v hy).to fun c o _ ho => List.mem_append_right _ ho, R.knd, R.nod, fun q hc => (R.cel q hc).imp fun o => Exists.imp fun u h => ⟨List.mem_append_right _ h.1, h.2⟩,
    fun p hp => (R.obj p hp).to fun q hq _ => List.mem_append_right _ hq, fun p hp => List.mem_append_right _ (R.rst p hp), R.apart⟩
theorem Rep.junk (R : Rep F σ s m news) {add : List (Addr × Obj)} {h' : Heap} {t : Nat} (Fr' : Fr m.g F.env.locals h' m.m) (N' : News m.g F.env.locals h' (add ++ news)) :
    Rep F σ { s with heap := h', toks := t } m (add ++ news) := ⟨R.toLed.junk add, Fr', N', R.bl, R.tn, R.bare, R.os⟩
end

end
/-! text M3 -/
section

theorem inj_nd {α β : Type} {f : α → β} : ∀ {l : List α}, (l.map f).Nodup → ∀ {a b : α}, a ∈ l → b ∈ l → f a = f b → a = b
  | [], _, _, _, h, _, _ => nomatch h
  | x :: l, nd, a, b, ha, hb, e => by
    simp only [List.map_cons, List.nodup_cons] at nd
    rcases List.mem_cons.mp ha with q | q <;> rcases List.mem_cons.mp hb with r | r
    · rw [q, r]
    · exact absurd (show f x ∈ l.map f from q ▸ e ▸ List.mem_map_of_mem (f := f) r) nd.1
    · exact absurd (show f x ∈ l.map f from r ▸ e ▸ List.mem_map_of_mem (f := f) q) nd.1
    · exact inj_nd nd.2 q r e

structure CallOk (F : Fm) : Prop where
  fr : F.A.frames = some (F.env :: F.outer)
  hf : F.env.frame = some F.env.locals
  nofree : ∀ x, F.env.kindOf x ≠ some .free

section
variable {W : Wd} {F : Fm} {E : Value → Shared → Prop} {σ : AS} {α : Type}

/-! names stored -/
theorem Rep.putL {s : Shared} {m m' : Mp} {news news' : List (Addr × Obj)} (R : Rep F σ s m news) (hg : m'.g = m.g) {x : Str} {v : Value} {l' : Lc} (U : Put x v σ.loc l') {h' : Heap} {t : Nat}
    (Fr' : Fr m.g F.env.locals h' m'.m) (N' : News m.g F.env.locals h' news') (hx : LocAt F.env m'.m news' x v)
    (old : ∀ y u, y ≠ x → LocAt F.env m.m news y u → LocAt F.env m'.m news' y u) (cel : ∀ p ∈ F.env.cells, ∃ o u, (p.2, o) ∈ news' ∧ o.data = .cell u)
    (keep : ∀ p ∈ news, p.1 ∉ F.env.cells.map (·.2) → p ∈ news') : Rep F ⟨l', σ.obj⟩ { s with heap := h', toks := t } m' news' := by
  obtain ⟨mm, gg⟩ := m'
  obtain rfl : gg = m.g := hg
  have A1 := List.nodup_append.mp R.apart
  have ap : ∀ b, b ∈ addrsOf σ.obj ++ F.rest.map (·.1) → b ∉ F.env.cells.map (·.2) := fun b hb hc => A1.2.2 b hc b hb rfl
  refine ⟨⟨fun y u hy => ?_, fun p hp => ?_, ?_, cel, fun p hp => ?_, fun p hp => ?_, R.apart⟩, Fr', N', R.bl, R.tn, R.bare, R.os⟩
  · rcases U.old R.nod _ hy with ⟨e1, e2⟩ | ⟨hne, hm⟩
    · cases e2; exact (show y = x from e1) ▸ hx
    · exact old y u hne (R.loc y u hm)
  · have : p.1 ∈ σ.loc.map (·.1) := U.names ▸ List.mem_map_of_mem hp
    obtain ⟨q, hq, e⟩ := List.mem_map.mp this
    exact e ▸ R.knd q hq
  · rw [show (AS.mk l' σ.obj).loc.map (·.1) = σ.loc.map (·.1) from U.names]; exact R.nod
  · exact (R.obj p hp).to fun q hq hb => keep q hq (ap _ (List.mem_append_left _ (mem_addrsOf hp hb)))
  · exact keep p (R.rst p hp) (ap _ (List.mem_append_right _ (List.mem_map_of_mem hp)))

noncomputable abbrev Sto (W : Wd) (F : Fm) (E : Value → Shared → Prop) (σ : AS) (x : Str) (v : Value) (P : AS → Prop) : Prop := ∀ rv, nv rv = v → Go W F E σ (storeName F.env x rv) fun _ σ' => P σ'
theorem st_name (O : FmOk W F) (C : CallOk F) {x : Str} {v : Value} {l' : Lc} {P : AS → Prop} (U : Put x v σ.loc l') (h : P ⟨l', σ.obj⟩) : Sto W F E σ x v P := fun rv hv s m news R => by
  subst hv
  obtain ⟨q, hq, rfl⟩ := List.mem_map.mp U.mem
  rcases (R.knd q hq).1 with hl | ⟨hl, hc⟩ | hl
  · refine wpAny_storeName_local hl R.fr.ns (fun h' hn hs => ?_) (by
      show (F.env.scope.kind == .class || (F.env.scope.kind == .module && F.env.locals != F.env.globals)) = false
      rw [O.hk]; rfl)
    refine ⟨_, ⟨fun x => if x = q.1 then some rv else m.m x, m.g⟩, news, h, R.putL (m' := ⟨fun x => if x = q.1 then some rv else m.m x, m.g⟩) rfl U (R.fr.set hn hs) (R.nw.set hs) (.inl ⟨hl, rv, if_pos rfl, rfl⟩) (fun y u hne hy => ?_) R.cel fun p hp _ => hp⟩
    rcases hy with ⟨h1, w, h2, h3⟩ | hy
    · exact .inl ⟨h1, w, (if_neg hne).trans h2, h3⟩
    · exact .inr hy
  · obtain ⟨c, hc⟩ := Option.isSome_iff_exists.mp hc
    obtain ⟨o, u, ho, hu⟩ := R.cel (q.1, c) (mem_of_lookup hc)
    refine wpAny_storeName_cell O.hk hl hc ⟨o, (R.nw _ ho).1, hu⟩ (fun h' hv hs => ?_)
    obtain ⟨o', ho', hd'⟩ := hv
    have hcL : c ≠ F.env.locals := (R.nw _ ho).2.1
    have h0 : m.g.get? c = none := (R.nw _ ho).2.2
    have N' : News m.g F.env.locals h' ((c, o') :: drop c news) := fun p hp => by
      rcases List.mem_cons.mp hp with rfl | hp
      · exact ⟨ho', hcL, h0⟩
      · have := drop_mem hp
        exact ⟨(hs.2 _ this.2).trans (R.nw _ this.1).1, (R.nw _ this.1).2⟩
    have F' : Fr m.g F.env.locals h' m.m := ⟨R.fr.ns.sameBut hs (Ne.symm hcL), fun b ob e => (hs.2 b (fun q => by rw [q, h0] at e; cases e)).trans (R.fr.keep b ob e), R.fr.above⟩
    refine ⟨_, m, _, h, R.putL rfl U F' N' (.inr ⟨.inl hl, c, o', rv, hc, List.mem_cons_self .., hd', rfl⟩) (fun y w hne hy => ?_) (fun p hp => ?_) fun p hp hn => ?_⟩
    · rcases hy with hy | ⟨h1, c', o₁, u₁, h2, h3, h4⟩
      · exact .inl hy
      · refine .inr ⟨h1, c', o₁, u₁, h2, List.mem_cons_of_mem _ (mem_drop h3 fun e => hne ?_), h4⟩
        have nd : (F.env.cells.map (·.2)).Nodup := (List.nodup_append.mp R.apart).1
        have m1 := mem_of_lookup hc
        have m2 := mem_of_lookup h2
        have e' : c' = c := e
        subst e'
        exact (congrArg Prod.fst (inj_nd nd m2 m1 rfl))
    · by_cases e : p.2 = c
      · exact ⟨o', _, e ▸ List.mem_cons_self .., hd'⟩
      · obtain ⟨o₁, u₁, h3, h4⟩ := R.cel p hp
        exact ⟨o₁, u₁, List.mem_cons_of_mem _ (mem_drop h3 e), h4⟩
    · exact List.mem_cons_of_mem _ (mem_drop hp fun e => hn (List.mem_map.mpr ⟨(q.1, c), mem_of_lookup hc, e.symm⟩))
  · exact absurd hl (C.nofree _)

noncomputable def Asg (x : Str) (v : Value) (P : AS → Prop) (σ : AS) : Prop := ∃ l', Put x v σ.loc l' ∧ P ⟨l', σ.obj⟩
theorem asg_i {x : Str} {v : Value} {P : AS → Prop} {l l' : Lc} {o : List (Addr × AO)} (U : Put x v l l') (h : P ⟨l', o⟩) : Asg x v P ⟨l, o⟩ := ⟨l', U, h⟩
noncomputable abbrev kAsg (x : Str) (P : Flow → AS → Prop) : Value → AS → Prop := fun v => Asg x v (P .next)
theorem s_asg (O : FmOk W F) (C : CallOk F) {x px e pos} {P : Flow → AS → Prop} (h : GoV W F E σ (eval e F.env) (kAsg x P))
    (hs : swapsWith e (some (.Name x px)) pos.line F.env = pure false := by rfl) : GoF W F E σ (exec (.Assign [.Name x px] e pos) F.env) P := fun s m news R =>
  wpAny_Assign_Name (wpAny_mono (h s m news R) (fun v s₁ ⟨σ₁, m₁, n₁, ⟨l', U, h₁⟩, R₁⟩ => st_name O C U h₁ v rfl s₁ m₁ n₁ R₁) fun _ _ e => e) hs

/-! attributes -/
noncomputable def GetA (W : Wd) (F : Fm) (E : Value → Shared → Prop) (σ : AS) (o : Value) (n : Str) (P : Value → AS → Prop) : Prop := ∀ vo, nv vo = o → GoV W F E σ (getAttr vo n true) P
noncomputable def SetA (W : Wd) (F : Fm) (E : Value → Shared → Prop) (σ : AS) (o : Value) (n : Str) (v : Value) (P : AS → Prop) : Prop := ∀ vo rv, nv vo = o → nv rv = v → Go W F E σ (setAttr vo n rv) fun _ σ' => P σ'
section
variable (W : Wd) (F : Fm) (E : Value → Shared → Prop)
noncomputable abbrev kGetA (n : Str) (P : Value → AS → Prop) : Value → AS → Prop := fun o σ₁ => GetA W F E σ₁ o n P
noncomputable abbrev kSetA (n : Str) (P : Flow → AS → Prop) : Value → Value → AS → Prop := fun v o σ₂ => SetA W F E σ₂ o n v (P .next)
noncomputable abbrev kSet1 (o : Value) (n : Str) (P : Flow → AS → Prop) : Value → AS → Prop := fun r σ₄ => SetA W F E σ₄ o n r (P .next)
noncomputable abbrev kAug2 (op : Operator) (n : Str) (P : Flow → AS → Prop) (o : Value) : Value → Value → AS → Prop := fun old v σ₃ => Op2 W F E σ₃ old v (inplaceOp op) (kSet1 W F E o n P)
noncomputable abbrev kAug (e : Expr) (op : Operator) (n : Str) (P : Flow → AS → Prop) : Value → AS → Prop := fun o σ₁ => GetA W F E σ₁ o n (kGV W F E e (kAug2 W F E op n P o))
end
theorem v_attr {e n pos} {P : Value → AS → Prop} (h : GoV W F E σ (eval e F.env) (kGetA W F E n P))
    (he : eval (.Attribute e n pos) F.env = (do
      let o ← eval e F.env
      standAt pos.atName
      let r ← holding [o] (getAttr o n true)
      letTemporaryGo e o r
      pure r) := by with_unfolding_all rfl) : GoV W F E σ (eval (.Attribute e n pos) F.env) P := fun s m news R =>
  Attribute_any_ (goE (h s m news R) (fun o s₁ σ₁ m₁ n₁ h₁ R₁ => h₁ o rfl s₁ m₁ n₁ R₁)) he

theorem flds_get {n : Str} {v : Value} : ∀ {es : List DictEntry} {fs : Fl}, Flds es fs → (fs.map (·.1)).Nodup → (n, v) ∈ fs → ∃ u, getL n es = some (some u) ∧ nv u = v
  | _, _, .nil, _, h => nomatch h
  | _, _, .cons (n := k) (u := u) (es := es) e r, nd, h => by
    simp only [List.map_cons, List.nodup_cons] at nd
    rcases List.mem_cons.mp h with q | q
    · cases q
      exact ⟨u, by simp [getL, Value.isStr], e⟩
    · obtain ⟨u', h1, h2⟩ := flds_get r nd.2 q
      have hne : (k == n) = false := by
        rw [beq_eq_false_iff_ne]
        intro z; subst z
        exact nd.1 (List.mem_map_of_mem (f := (·.1)) q)
      refine ⟨u', ?_, h2⟩
      rw [← h1]
      unfold getL
      simp [Value.isStr, hne, DictEntry.refKey]
theorem flds_none {n : Str} : ∀ {es : List DictEntry} {fs : Fl}, Flds es fs → n ∉ fs.map (·.1) → getL n es = some none
  | _, _, .nil, _ => rfl
  | _, _, .cons (n := k) (u := u) (es := es) e r, h => by
    simp only [List.map_cons, List.mem_cons, not_or] at h
    have ih := flds_none r h.2
    have hne : (k == n) = false := by rw [beq_eq_false_iff_ne]; exact Ne.symm h.1
    rw [← ih]
    unfold getL
    simp [Value.isStr, hne, DictEntry.refKey]

inductive PutF (n : Str) (v : Value) : Fl → Fl → Prop
  | head {u r} : PutF n v ((n, u) :: r) ((n, v) :: r)
  | tail {p r r'} : PutF n v r r' → PutF n v (p :: r) (p :: r')
theorem PutF.names {n v l l'} (h : PutF n v l l') : l'.map (·.1) = l.map (·.1) := by
  induction h with
  | head => rfl
  | tail _ ih => simp [ih]
theorem PutF.mem {n v l l'} (h : PutF n v l l') : ∃ u, (n, u) ∈ l := by
  induction h with
  | head => exact ⟨_, List.mem_cons_self ..⟩
  | tail _ ih => exact ih.imp fun _ h => List.mem_cons_of_mem _ h
theorem flds_put {n : Str} {u v : Value} {hs : Int} {t : Tok} (hv : nv u = v) {es : List DictEntry} {fs fs' : Fl} (h : Flds es fs) (nd : (fs.map (·.1)).Nodup) (U : PutF n v fs fs') : Flds (putL n hs (.str n t) u es) fs' := by
  induction U generalizing es with
  | head =>
    cases h with
    | cons e r =>
      unfold putL
      rw [if_pos (by simp [Value.isStr])]
      exact .cons hv r
  | tail U ih =>
    cases h with
    | @cons _ k _ _ _ _ _ e r =>
      simp only [List.map_cons, List.nodup_cons] at nd
      obtain ⟨w, hw⟩ := U.mem
      have hne : (k == n) = false := by
        rw [beq_eq_false_iff_ne]
        intro z; subst z
        exact nd.1 (List.mem_map_of_mem (f := (·.1)) hw)
      unfold putL
      rw [if_neg (by simp [Value.isStr, hne])]
      exact .cons e (ih r nd.2)
theorem flds_new {n : Str} {u v : Value} {hs : Int} {t : Tok} (hv : nv u = v) : ∀ {es : List DictEntry} {fs : Fl}, Flds es fs → n ∉ fs.map (·.1) → Flds (putL n hs (.str n t) u es) (fs ++ [(n, v)])
  | _, _, .nil, _ => .cons hv .nil
  | _, _, .cons (n := k) e r, h => by
    simp only [List.map_cons, List.mem_cons, not_or] at h
    have hne : (k == n) = false := by rw [beq_eq_false_iff_ne]; exact Ne.symm h.1
    unfold putL
    rw [if_neg (by simp [Value.isStr, hne])]
    exact .cons e (flds_new hv r h.2)
theorem Flds.length : ∀ {es : List DictEntry} {fs : Fl}, Flds es fs → es.length = fs.length
  | _, _, .nil => rfl
  | _, _, .cons _ r => by simp [r.length]

noncomputable def plainA (K : Frag) (C : Addr) (n : Str) : Bool := plainGet K C n && hasDictIn K C && (match findIn K (.ref C) n with | some a => noGet K a | none => false)
noncomputable def plainS (K : Frag) (C : Addr) (n : Str) : Bool := findIn K (.ref C) "__setattr__" == some (some (.builtin "object.__setattr__")) && plainOver K C && takerIn K C n == some none && hasDictIn K C
theorem handed_nv (v : Value) : handedIn (nv v) = handedIn v := by cases v <;> rfl

theorem Rep.inst {s : Shared} {m : Mp} {news : List (Addr × Obj)} (R : Rep F σ s m news) {a C d : Addr} {fs : Fl} (h : (a, .inst C d fs) ∈ σ.obj) :
    ∃ sl es n, InstAt s.heap a ⟨.ref C, some d, .plain, sl⟩ C (some (dictOf es n)) ∧ (d, dictOf es n) ∈ news ∧ (a, (⟨.ref C, some d, .plain, sl⟩ : Obj)) ∈ news ∧ Flds es fs ∧ (fs.map (·.1)).Nodup := by
  obtain ⟨sl, es, n, h1, h2, h3, h4⟩ := R.obj _ h
  exact ⟨sl, es, n, InstAt.of_news R.nw h1 h2, h2, h1, h3, h4⟩

noncomputable def methA (K : Frag) (C : Addr) (n : Str) (f : Addr) : Bool := plainGet K C n && findIn K (.ref C) n == some (some (.ref f)) && isFn K (.ref f)
noncomputable def clsOk (K : Frag) (C : Addr) (names : List Str) (ms : List (Str × Addr)) : Bool := names.all (fun n => plainA K C n && plainS K C n) && ms.all fun p => methA K C p.1 p.2
structure ClsTab (K : Frag) (C : Addr) (names : List Str) (ms : List (Str × Addr)) : Prop where
  ok : clsOk K C names ms = true
theorem ClsTab.a {K : Frag} {C : Addr} {names : List Str} {ms : List (Str × Addr)} (T : ClsTab K C names ms) {n : Str} (h : n ∈ names) : plainA K C n = true := by
  have := T.ok
  simp only [clsOk, Bool.and_eq_true, List.all_eq_true] at this
  exact (this.1 n h).1
theorem ClsTab.s {K : Frag} {C : Addr} {names : List Str} {ms : List (Str × Addr)} (T : ClsTab K C names ms) {n : Str} (h : n ∈ names) : plainS K C n = true := by
  have := T.ok
  simp only [clsOk, Bool.and_eq_true, List.all_eq_true] at this
  exact (this.1 n h).2
theorem ClsTab.m {K : Frag} {C : Addr} {names : List Str} {ms : List (Str × Addr)} (T : ClsTab K C names ms) {n : Str} {f : Addr} (h : (n, f) ∈ ms) : methA K C n f = true := by
  have := T.ok
  simp only [clsOk, Bool.and_eq_true, List.all_eq_true] at this
  exact this.2 (n, f) h

theorem g_part (O : FmOk W F) {a C d : Addr} {fs : Fl} {n : Str} {v : Value} {P : Value → AS → Prop} {names : List Str} {ms : List (Str × Addr)} (ha : (a, .inst C d fs) ∈ σ.obj) (T : ClsTab W.K C names ms) (hp : n ∈ names) (hv : (n, v) ∈ fs) (h : P v σ) (hh : handedIn v = true := by rfl) :
    GetA W F E σ (.ref a) n P := fun vo ho s m news R => by
  obtain rfl := nv_ref ho
  obtain ⟨sl, es, k, I, hd, _, hf, nd⟩ := R.inst ha
  obtain ⟨u, hu, rfl⟩ := flds_get hf nd hv
  have hp := T.a hp
  simp only [plainA, Bool.and_eq_true] at hp
  obtain ⟨⟨p1, p2⟩, p3⟩ := hp
  split at p3
  · rename_i at_ q
    exact get_own R.fr (R.X O) I p1 p2 q p3 hu (by rw [← handed_nv]; exact hh) ⟨σ, m, news, h, R.tok _⟩
  · cases p3

theorem g_inst (O : FmOk W F) {a C d : Addr} {fs : Fl} {n : Str} {v : Value} {P : Value → AS → Prop} {names : List Str} {ms : List (Str × Addr)} (ha : (a, .inst C d fs) ∈ σ.obj) (T : ClsTab W.K C names ms) (hp : fs.map (·.1) = names) (hv : (n, v) ∈ fs) (h : P v σ) (hh : handedIn v = true := by rfl) :
    GetA W F E σ (.ref a) n P := g_part O ha T (hp ▸ List.mem_map_of_mem (f := (·.1)) hv) hv h hh

theorem a_part (O : FmOk W F) {a C d : Addr} {fs fs' : Fl} {lc : Lc} {ob l' : List (Addr × AO)} {n : Str} {v : Value} {P : AS → Prop} {names : List Str} {ms : List (Str × Addr)} (U : PutO a (.inst C d fs) (.inst C d fs') ob l') (T : ClsTab W.K C names ms) (hp : n ∈ names)
    (V : PutF n v fs fs') (h : P ⟨lc, l'⟩) (hz : Nat.ble fs'.length 1000 = true) : SetA W F E ⟨lc, ob⟩ (.ref a) n v P := fun vo rv ho hv s m news R => by
  obtain rfl := nv_ref ho
  obtain ⟨sl, es, k, I, hd, hi, hf, nd⟩ := R.inst (σ := ⟨lc, ob⟩) U.mem
  have hp := T.s hp
  simp only [plainS, Bool.and_eq_true, beq_iff_eq] at hp
  obtain ⟨⟨⟨p1, p2⟩, p3⟩, p4⟩ := hp
  have hne : a ≠ d := fun e => by
    have := (R.nw _ hd).1.symm.trans (e ▸ (R.nw _ hi).1)
    cases this
  have hl : (getL n es).isSome = true := by
    obtain ⟨w, hw⟩ := V.mem
    obtain ⟨u, hu, _⟩ := flds_get hf nd hw
    rw [hu]; rfl
  have hf' : Flds (putL n (PyData.keyHash W.w.params n) (.str n (s.toks + 1)) rv es) fs' := flds_put hv hf nd V
  have nd' : (fs'.map (·.1)).Nodup := by rw [V.names]; exact nd
  have N1 : News m.g F.env.locals s.heap ((d, dictOf es k) :: drop d news) := fun p hp => by
    rcases List.mem_cons.mp hp with rfl | hp
    · exact R.nw _ hd
    · exact R.nw _ (drop_mem hp).1
  refine set_dict R.fr (R.X O) N1 I rfl p1 p2 p3 p4 hl rfl (.head fun p hp => (drop_mem hp).2) (by rw [hf'.length]; exact Nat.le_of_ble_eq_true hz) fun h' F' N' => ?_
  refine ⟨_, m, _, h, R.putO U rfl (by simp [AO.addrs]) F' N' ?_⟩
  exact ⟨sl, _, _, List.mem_cons_of_mem _ (mem_drop hi hne), List.mem_cons_self .., hf', nd'⟩

theorem a_inst (O : FmOk W F) {a C d : Addr} {fs fs' : Fl} {lc : Lc} {ob l' : List (Addr × AO)} {n : Str} {v : Value} {P : AS → Prop} {names : List Str} {ms : List (Str × Addr)} (U : PutO a (.inst C d fs) (.inst C d fs') ob l') (T : ClsTab W.K C names ms) (hp : fs'.map (·.1) = names)
    (V : PutF n v fs fs') (h : P ⟨lc, l'⟩) (hz : Nat.ble fs'.length 1000 = true) : SetA W F E ⟨lc, ob⟩ (.ref a) n v P := a_part O U T (hp ▸ (by
    rw [V.names]; obtain ⟨u, hu⟩ := V.mem; exact List.mem_map_of_mem (f := (·.1)) hu)) V h hz

theorem s_seta {e oe n tp pos} {P : Flow → AS → Prop} (h : GoV W F E σ (eval e F.env) (kGV W F E oe (kSetA W F E n P)))
    (hs : swapsWith e (some (.Attribute oe n tp)) pos.line F.env = pure false := by rfl) : GoF W F E σ (exec (.Assign [.Attribute oe n tp] e pos) F.env) P := fun s m news R =>
  plainObj_wpAny_Assign_Attribute (goE (h s m news R) (fun v s₁ σ₁ m₁ n₁ h₁ R₁ => wpAny_mono (h₁ s₁ m₁ n₁ R₁) (fun o s₂ ⟨σ₂, m₂, n₂, h₂, R₂⟩ =>
    goE (h₂ o v rfl rfl s₂ m₂ n₂ R₂) (fun _ s₃ σ₃ m₃ n₃ h₃ R₃ => ⟨σ₃, m₃, n₃, h₃, R₃⟩)) fun _ _ e => e)) hs
theorem s_auga {e oe n tp op pos} {P : Flow → AS → Prop} (h : GoV W F E σ (eval oe F.env) (kAug W F E e op n P)) :
    GoF W F E σ (exec (.AugAssign (.Attribute oe n tp) op e pos) F.env) P := fun s m news R =>
  wpAny_AugAssign_AttributeAny (goE (h s m news R) (fun o s₁ σ₁ m₁ n₁ h₁ R₁ => wpAny_mono (h₁ o rfl s₁ m₁ n₁ R₁) (fun old s₂ ⟨σ₂, m₂, n₂, h₂, R₂⟩ =>
    goE (h₂ s₂ m₂ n₂ R₂) (fun v s₃ σ₃ m₃ n₃ h₃ R₃ => wpAny_mono (h₃ old v rfl rfl s₃ m₃ n₃ R₃) (fun r s₄ ⟨σ₄, m₄, n₄, h₄, R₄⟩ =>
      goE (h₄ o r rfl rfl s₄ m₄ n₄ R₄) (fun _ s₅ σ₅ m₅ n₅ h₅ R₅ => ⟨σ₅, m₅, n₅, h₅, R₅⟩)) fun _ _ e => e)) fun _ _ e => e))

/-! methods -/
noncomputable def Meth (W : Wd) (F : Fm) (E : Value → Shared → Prop) (σ : AS) (o : Value) (n : Str) (P : Value → List Value → AS → Prop) : Prop :=
  ∀ vo pl, nv vo = o → Go W F E σ (getMethod vo n pl) fun r σ' => P (nv r.1) (r.2.map nv) σ'
noncomputable def absF (n : Str) (fs : Fl) : Bool := fs.all fun p => !(p.1 == n)
theorem absF_of {n : Str} {fs : Fl} (h : absF n fs = true) : n ∉ fs.map (·.1) := fun hm => by
  obtain ⟨p, hp, e⟩ := List.mem_map.mp hm
  have := List.all_eq_true.mp h p hp
  simp [e] at this
theorem m_inst (O : FmOk W F) {a C d f : Addr} {fs : Fl} {n : Str} {P : Value → List Value → AS → Prop} {names : List Str} {ms : List (Str × Addr)} (ha : (a, .inst C d fs) ∈ σ.obj) (T : ClsTab W.K C names ms) (hp : (n, f) ∈ ms) (hn : absF n fs = true) (h : P (.ref f) [.ref a] σ) :
    Meth W F E σ (.ref a) n P := fun vo pl ho s m news R => by
  obtain rfl := nv_ref ho
  obtain ⟨sl, es, k, I, hd, _, hf, nd⟩ := R.inst ha
  have hp := T.m hp
  simp only [methA, Bool.and_eq_true, beq_iff_eq] at hp
  obtain ⟨⟨p1, p2⟩, p3⟩ := hp
  exact method_inst R.fr (R.X O) I p1 p2 p3 (flds_none hf (absF_of hn)) ⟨σ, m, news, h, R⟩
theorem m_str {x : Str} {t : Tok} {n : Str} {id : String} {P : Value → List Value → AS → Prop} (slot : Slot "str" n id) (hty : typeOf (.builtin id) = pure (.type "method_descriptor")) (h : P (.builtin id) [.str x 0] σ) :
    Meth W F E σ (.str x t) n P := fun vo pl ho s m news R => by
  obtain ⟨u, rfl⟩ := nv_str ho
  exact getMethod_builtin (typeIs_str s x u) PySem.F.plainAttrs_str slot hty (fun _ e => nomatch e) ⟨σ, m, news, h, R⟩
end

end
/-! text M4 -/
section

section
variable {W : Wd} {F : Fm} {E : Value → Shared → Prop} {σ : AS} {α : Type}

/-! arguments -/
noncomputable abbrev Args (W : Wd) (F : Fm) (E : Value → Shared → Prop) (σ : AS) (pos : Pos) (as : List Expr) (P : List Value → AS → Prop) : Prop := Go W F E σ (spliced (backTo pos (starEach as F.env))) fun vs σ' => P (vs.map nv) σ'
section
variable (W : Wd) (F : Fm) (E : Value → Shared → Prop)
noncomputable abbrev kCons (v : Value) (P : List Value → AS → Prop) : List Value → AS → Prop := fun vs => P (v :: vs)
noncomputable abbrev kA (pos : Pos) (as : List Expr) (P : List Value → AS → Prop) : Value → AS → Prop := fun v σ₁ => Args W F E σ₁ pos as (kCons v P)
end
theorem a_nil {pos} {P : List Value → AS → Prop} (h : P [] σ) : Args W F E σ pos [] P := fun s m news R => wpAny_items_nil ⟨σ, m, news, h, R⟩
theorem a_cons {pos e as} {P : List Value → AS → Prop} (h : GoV W F E σ (eval e F.env) (kA W F E pos as P))
    (he : starEach (e :: as) F.env = (false, eval e F.env) :: starEach as F.env := by rfl) : Args W F E σ pos (e :: as) P := fun s m news R =>
  wpAny_items_cons (goE (h s m news R) (fun v s₁ σ₁ m₁ n₁ h₁ R₁ => goE (h₁ s₁ m₁ n₁ R₁) (fun vs s₂ σ₂ m₂ n₂ h₂ R₂ => ⟨σ₂, m₂, n₂, h₂, R₂⟩))) he
noncomputable abbrev Kws (W : Wd) (F : Fm) (E : Value → Shared → Prop) (σ : AS) (l : List (Option Str × Sem Value)) (P : List Value → AS → Prop) : Prop := Go W F E σ (evalAll (l.map (·.2))) fun vs σ' => P (vs.map nv) σ'
/-! calls -/
noncomputable def nk (kw : List (Str × Value)) : Fl := kw.map fun p => (p.1, nv p.2)
noncomputable def CallF (W : Wd) (F : Fm) (E : Value → Shared → Prop) (σ : AS) (f : Value) (vs : List Value) (kw : Fl) (P : Value → AS → Prop) : Prop :=
  ∀ rf rvs rkw, nv rf = f → rvs.map nv = vs → nk rkw = kw → GoV W F E σ (call rf rvs rkw) P
noncomputable def CallW (W : Wd) (F : Fm) (E : Value → Shared → Prop) (σ : AS) (pos : Pos) (f : Value) (first : List Value) (as : List Expr) (ks : List Keyword) (P : Value → AS → Prop) : Prop :=
  ∀ rf rfirst, nv rf = f → rfirst.map nv = first → GoV W F E σ (callWith pos rf rfirst (backTo pos (starEach as F.env)) (backToKw pos (keywordEach ks F.env))) P
noncomputable def keepB (K : Frag) : Value → Bool
  | .ref a => keepIn K (.ref a)
  | _ => true
theorem keeps_B {K : Frag} {M : Model} {f rf : Value} (hf : nv rf = f) (hk : keepB K f = true) (h : Heap) (X : K.In h) : ∃ k, (k = Keeper.frame ∨ k = Keeper.machine ∨ k = Keeper.boundFrame) ∧ Looks M h (keeperOf rf) k := by
  subst hf
  cases rf with
  | ref a => exact keeps_K (f := .ref a) (show keepIn K (.ref a) = true from hk) h X
  | _ => exact ⟨.machine, .inr (.inl rfl), Looks.of_pure rfl⟩

section
variable (W : Wd) (F : Fm) (E : Value → Shared → Prop)
noncomputable abbrev kCallF (f : Value) (first : List Value) (P : Value → AS → Prop) : List Value → AS → Prop := fun vs σ₁ => CallF W F E σ₁ f (first ++ vs) [] P
noncomputable abbrev kCall0 (f : Value) (P : Value → AS → Prop) : List Value → AS → Prop := fun vs σ₁ => CallF W F E σ₁ f vs [] P
noncomputable abbrev kCall1 (f a : Value) (P : Value → AS → Prop) : List Value → AS → Prop := fun vs σ₁ => CallF W F E σ₁ f (a :: vs) [] P
noncomputable abbrev kCallW (pos : Pos) (as : List Expr) (ks : List Keyword) (P : Value → AS → Prop) : Value → AS → Prop := fun f σ₁ => CallW W F E σ₁ pos f [] as ks P
noncomputable abbrev kMeth2 (pos : Pos) (as : List Expr) (ks : List Keyword) (P : Value → AS → Prop) : Value → List Value → AS → Prop := fun f first σ₂ => CallW W F E σ₂ pos f first as ks P
noncomputable abbrev kMeth (n : Str) (pos : Pos) (as : List Expr) (ks : List Keyword) (P : Value → AS → Prop) : Value → AS → Prop := fun ov σ₁ => Meth W F E σ₁ ov n (kMeth2 W F E pos as ks P)
end
theorem w_call0 (O : FmOk W F) {pos f first} {P : Value → AS → Prop} (hk : keepB W.K f = true) (h : CallF W F E σ f first [] P) : CallW W F E σ pos f first [] [] P := fun rf rfirst hf hfi s m news R =>
  callWith_of (P := fun h => W.K.In h) rfl (keeps_B hf hk) (evalArgs_nil3 ⟨(R.X O).keeps R.fr.keep, h rf (rfirst ++ []) [] hf (by simpa using hfi) rfl s m news R⟩)
theorem w_call (O : FmOk W F) {pos f first e as} {P : Value → AS → Prop} (hk : keepB W.K f = true) (h : Args W F E σ pos (e :: as) (kCallF W F E f first P))
    (he : starEach (e :: as) F.env = (false, eval e F.env) :: starEach as F.env := by rfl) (hplain : (backTo pos (starEach as F.env)).any (·.1) = false := by rfl) : CallW W F E σ pos f first (e :: as) [] P := fun rf rfirst hf hfi s m news R => by
  have h' := h s m news R
  rw [he] at h' ⊢
  refine callWith_of (P := fun h => W.K.In h) (by show ((false || (backTo pos (starEach as F.env)).any (·.1)) || false) = false; rw [hplain]; rfl) (keeps_B hf hk) (evalArgs_plain (wpAny_mono h' (fun vs s₁ ⟨σ₁, m₁, n₁, h₁, R₁⟩ => ?_) fun _ _ e => e))
  exact ⟨(R₁.X O).keeps R₁.fr.keep, h₁ rf (rfirst ++ vs) [] hf (by simp [hfi]) rfl s₁ m₁ n₁ R₁⟩
theorem w_callk (O : FmOk W F) {pos f first e as ks} {P : Value → AS → Prop} (hk : keepB W.K f = true) (hall : (backToKw pos (keywordEach ks F.env)).all (·.1.isSome) = true)
    (h : Args W F E σ pos (e :: as) fun vs σ₁ => Kws W F E σ₁ (backToKw pos (keywordEach ks F.env)) fun kvs σ₂ => CallF W F E σ₂ f (first ++ vs) (((backToKw pos (keywordEach ks F.env)).filterMap (·.1)).zip kvs) P)
    (hplain : ((backTo pos (starEach (e :: as) F.env)).any (·.1) || (backToKw pos (keywordEach ks F.env)).any (·.1.isNone)) = false := by rfl)
    (he : starEach (e :: as) F.env = (false, eval e F.env) :: starEach as F.env := by rfl) : CallW W F E σ pos f first (e :: as) ks P := fun rf rfirst hf hfi s m news R => by
  refine callWith_of (P := fun h => W.K.In h) hplain (keeps_B hf hk) (evalArgs_kw2 hall (goE (h s m news R) (fun vs s₁ σ₁ m₁ n₁ h₁ R₁ => goE (h₁ s₁ m₁ n₁ R₁) (fun kvs s₂ σ₂ m₂ n₂ h₂ R₂ => ?_))) he)
  refine ⟨(R₂.X O).keeps R₂.fr.keep, h₂ rf (rfirst ++ vs) _ hf (by simp [hfi]) ?_ s₂ m₂ n₂ R₂⟩
  unfold nk
  rw [List.map_zip_eq_zipWith, List.zip_map_right, List.map_zip_eq_zipWith]
  rfl
theorem v_call {x np as ks pos} {P : Value → AS → Prop} (h : GoV W F E σ (eval (.Name x np) F.env) (kCallW W F E pos as ks P)) : GoV W F E σ (eval (.Call (.Name x np) as ks pos) F.env) P := fun s m news R =>
  wpAny_Call_ofName (goE (h s m news R) (fun f s₁ σ₁ m₁ n₁ h₁ R₁ => h₁ f [] rfl rfl s₁ m₁ n₁ R₁))
theorem v_meth {o n ap as ks pos pl} {P : Value → AS → Prop} (h : GoV W F E σ (eval o F.env) (kMeth W F E n pos as ks P))
    (he : eval (.Call (.Attribute o n ap) as ks pos) F.env = (do
      let ov ← eval o F.env
      standAt ap.atName
      let (f, first) ← holding [ov] (getMethod ov n pl)
      callWith pos f first (backTo pos (starEach as F.env)) (backToKw pos (keywordEach ks F.env))) := by rfl) : GoV W F E σ (eval (.Call (.Attribute o n ap) as ks pos) F.env) P := fun s m news R =>
  methodCall_KW (pl := pl) (goE (h s m news R) (fun ov s₁ σ₁ m₁ n₁ h₁ R₁ => goE (h₁ ov pl rfl s₁ m₁ n₁ R₁) (fun fx s₂ σ₂ m₂ n₂ h₂ R₂ => h₂ fx.1 fx.2 rfl rfl s₂ m₂ n₂ R₂))) he

/-! a def of the top is called -/
noncomputable def Binds (K : Frag) (fd : FuncData) (vs : List Value) (kw nb : Fl) : Prop :=
  ∀ rvs rkw, rvs.map nv = vs → nk rkw = kw → ∃ binds, (∀ S, peek K S (bindArgs fd ⟨rvs, rkw⟩) = some binds) ∧ nk binds = nb
noncomputable def namesOk (scope : Scope) (ps others : List Str) : Bool :=
  (ps ++ others).all (fun x => (scope.names.lookup x == some .local || scope.names.lookup x == some .cell) && !(x == ("__debug__" : Str))) && decide (ps ++ others).Nodup && decide ((cellsFrom 0 scope.names []).map (·.1)).Nodup
theorem bindL_out {k : Str → Option NameKind} {x : Str} : ∀ {b : List (Str × Value)} {m : Str → Option Value}, x ∉ b.map (·.1) → bindL k b m x = m x
  | [], _, _ => rfl
  | (n, v) :: r, m, h => by
    simp only [List.map_cons, List.mem_cons, not_or] at h
    rw [bindL, bindL_out h.2]
    split
    · simp [h.1]
    · rfl
theorem bindC_out {k : Str → Option NameKind} {x : Str} : ∀ {b : List (Str × Value)} {m : Str → Option Value}, x ∉ b.map (·.1) → bindC k b m x = m x
  | [], _, _ => rfl
  | (n, v) :: r, m, h => by
    simp only [List.map_cons, List.mem_cons, not_or] at h
    rw [bindC, bindC_out h.2]
    split
    · rfl
    · simp [h.1]
theorem bindL_in {k : Str → Option NameKind} {x : Str} {u : Value} (hk : k x = some .local) : ∀ {b : List (Str × Value)} {m : Str → Option Value}, (b.map (·.1)).Nodup → (x, u) ∈ b → bindL k b m x = some u
  | (n, v) :: r, m, nd, h => by
    simp only [List.map_cons, List.nodup_cons] at nd
    rw [bindL]
    rcases List.mem_cons.mp h with e | h
    · cases e
      rw [bindL_out nd.1, if_pos hk]; simp
    · exact bindL_in hk nd.2 h
theorem bindC_in {k : Str → Option NameKind} {x : Str} {u : Value} (hk : k x ≠ some .local) : ∀ {b : List (Str × Value)} {m : Str → Option Value}, (b.map (·.1)).Nodup → (x, u) ∈ b → bindC k b m x = some u
  | (n, v) :: r, m, nd, h => by
    simp only [List.map_cons, List.nodup_cons] at nd
    rw [bindC]
    rcases List.mem_cons.mp h with e | h
    · cases e
      rw [bindC_out nd.1, if_neg hk]; simp
    · exact bindC_in hk nd.2 h
theorem cellsFrom_addrs : ∀ (names : List (Str × NameKind)) (n : Nat) (acc : List (Str × Addr)), (acc.map (·.2)).Nodup → (∀ c ∈ acc.map (·.2), c < n) →
    ((cellsFrom n names acc).map (·.2)).Nodup
  | [], _, _, nd, _ => nd
  | (x, k) :: r, n, acc, nd, h => by
    unfold cellsFrom
    split
    · refine cellsFrom_addrs r (n + 1) _ (List.nodup_cons.mpr ⟨fun q => Nat.lt_irrefl _ (h _ q), nd⟩) fun c hc => ?_
      rcases List.mem_cons.mp hc with q | q
      · exact q ▸ Nat.lt_succ_self _
      · exact Nat.lt_succ_of_lt (h c q)
    · exact cellsFrom_addrs r n acc nd h
theorem cellsFrom_ge : ∀ (names : List (Str × NameKind)) (n lo : Nat) (acc : List (Str × Addr)), lo ≤ n → (∀ c ∈ acc.map (·.2), lo ≤ c) → ∀ c ∈ (cellsFrom n names acc).map (·.2), lo ≤ c
  | [], _, _, _, _, h => h
  | (x, k) :: r, n, lo, acc, hn, h => by
    unfold cellsFrom
    split
    · refine cellsFrom_ge r (n + 1) lo _ (Nat.le_succ_of_le hn) fun c hc => ?_
      rcases List.mem_cons.mp hc with q | q
      · exact q ▸ hn
      · exact h c q
    · exact cellsFrom_ge r n lo acc hn h
theorem CellsAre.at {cm : Str → Option Value} {cs : List (Str × Addr)} {cells : List (Addr × Obj)} (h : CellsAre cm cs cells) : ∀ p ∈ cs, ∃ o, (p.2, o) ∈ cells ∧ o.data = .cell (cm p.1) := by
  induction h with
  | nil => intro p hp; cases hp
  | cons e r ih =>
    intro p hp
    rcases List.mem_cons.mp hp with rfl | hp
    · exact ⟨_, List.mem_cons_self .., e⟩
    · obtain ⟨o, h1, h2⟩ := ih p hp
      exact ⟨o, List.mem_cons_of_mem _ h1, h2⟩
theorem CellsAre.back {cm : Str → Option Value} {cs : List (Str × Addr)} {cells : List (Addr × Obj)} (h : CellsAre cm cs cells) : cells.map (·.1) = cs.map (·.2) := by
  induction h with
  | nil => rfl
  | cons e r ih => simp [ih]

theorem nk_mem {binds : List (Str × Value)} {x : Str} {v : Value} (h : (x, v) ∈ nk binds) : ∃ u, (x, u) ∈ binds ∧ nv u = v := by
  obtain ⟨p, hp, e⟩ := List.mem_map.mp h
  cases e
  exact ⟨p.2, hp, rfl⟩
theorem nk_names (b : List (Str × Value)) : (nk b).map (·.1) = b.map (·.1) := by simp [nk]

theorem cells_raw {news : List (Addr × Obj)} : ∀ {cs : List (Str × Addr)}, (∀ p ∈ cs, ∃ o u, (p.2, o) ∈ news ∧ o.data = .cell u) → ∃ cr : List (Addr × Obj), cr.map (·.1) = cs.map (·.2) ∧ ∀ q ∈ cr, q ∈ news
  | [], _ => ⟨[], rfl, fun _ h => nomatch h⟩
  | p :: cs, h => by
    obtain ⟨cr, h1, h2⟩ := cells_raw fun q hq => h q (List.mem_cons_of_mem _ hq)
    obtain ⟨o, u, ho, _⟩ := h p (List.mem_cons_self ..)
    exact ⟨(p.2, o) :: cr, by simp [h1], fun q hq => by
      rcases List.mem_cons.mp hq with rfl | hq
      · exact ho
      · exact h2 q hq⟩
theorem News.one {h₀ h : Heap} {L : Addr} {news : List (Addr × Obj)} (N : News h₀ L h news) {c : Addr} {o o' : Obj} (h1 : (c, o) ∈ news) (h2 : (c, o') ∈ news) : o = o' :=
  Option.some.inj ((N _ h1).1.symm.trans (N _ h2).1)

noncomputable def retv : Flow → Value
  | .ret v => v
  | _ => .none

noncomputable abbrev Lv (W : Wd) (F' : Fm) (E : Value → Shared → Prop) : Value → Shared → Prop :=
  fun e s' => wpAny (model W.prog W.w) F'.A (leaving F'.env e) (fun _ s'' => E e s'') (fun e' s'' => E e' s'') s'

noncomputable def CodeF (W : Wd) (F : Fm) (E : Value → Shared → Prop) (σ : AS) (f : Value) (vs : List Value) (kw : Fl) (P : Value → AS → Prop) : Prop :=
  ∀ rf rvs rkw, nv rf = f → rvs.map nv = vs → nk rkw = kw → ∀ s m news, Rep F σ s m news → codeAny (model W.prog W.w) F.A (.call rf ⟨rvs, rkw⟩)
    (fun r s' => match r with | .ok (.ret v) => ∃ σ' m' news', P (nv v) σ' ∧ Rep F σ' s' m' news' | .ok _ => False | .error e => E e s') s
theorem CodeF.call {f : Value} {vs : List Value} {kw : Fl} {P : Value → AS → Prop} (h : CodeF W F E σ f vs kw P) : CallF W F E σ f vs kw P := fun rf rvs rkw hrf hrvs hrkw s m news R =>
  wpAny_call (h rf rvs rkw hrf hrvs hrkw s m news R)

/-! a def's frame -/
theorem frame_cells {prog : Program} {w : World} {A₀ A : Around} {s : Shared} {base h₀ : Heap} {outer : List Env} {L : Addr} {m : Str → Option Value} {env : Env} {news : List (Addr × Obj)} {R : Result → Shared → Prop} {E : Value → Shared → Prop}
    {qual : Str} {body : List Stmt} {scope : Scope} {cdv : Value} {f : Addr} {binds : List (Str × Value)}
    (B : Below A₀ base outer h₀) (F : Fr h₀ L s.heap m) (N : News h₀ L s.heap news) (hlim : h₀.NoLimit) (hA : A.frames = some (env :: outer)) (hf : env.frame = some L) (hke : env.scope.kind = .function)
    (hkind : ∀ n, ∀ x ∈ binds, scope.names.lookup x.1 = some .local ∨ (scope.names.lookup x.1 = some .cell ∧ ((cellsFrom n scope.names []).lookup x.1).isSome = true))
    (hnd : ((cellsFrom 0 scope.names []).map (·.1)).Nodup)
    (h : ∀ g L' h₁ tk cells, Fr h₀ L g m → Fr g L' h₁ (bindL (envOfC qual scope L' f cdv).kindOf binds fun _ => none) → News g L' h₁ (cells ++ news) →
      CellsAre (bindC (envOfC qual scope L' f cdv).kindOf binds fun _ => none) (cellsFrom (L' + 1) scope.names []) cells → Below A base (env :: outer) g → (∀ p ∈ news, p.1 < L') →
      wpAny (model prog w) (A.deeper (envOfC qual scope L' f cdv)) (execs body (envOfC qual scope L' f cdv)) (fun fl s' => R (.ok (.ret (retv fl))) s')
        (fun e s' => wpAny (model prog w) (A.deeper (envOfC qual scope L' f cdv)) (leaving (envOfC qual scope L' f cdv) e) (fun _ s'' => R (.error e) s'') (fun e' s'' => R (.error e') s'') s')
        { s with heap := h₁, toks := tk })
    (hk : scope.kind = .function) : wpAny (model prog w) A.in1 (newFunctionEnv scope mainGlobals [] binds (qual ++ ".<locals>.") (some f) cdv none builtinsNs) (fun env' s₂ => s₂.heap.NoLimit ∧ codeAny (model prog w) A (.func body env') R s₂) E s := by
  have G := groundX (R := R) B F N hA hf hke
  refine wpAny_newFunctionEnv_cells hk (hkind _) fun env' he s' x => ?_
  subst he
  refine ⟨(hlim.keeps F.keep).keeps x.toInCall.keep, codeAny_func ?_⟩
  obtain ⟨h₁, tk, rfl, _⟩ := x.done
  have hk₁ := x.toInCall.keep
  obtain ⟨cells, NC, Y⟩ := Cl.news (h₀ := s.heap) (Nat.le_refl _) fun n c hm => ⟨x.cell n c (lookup_of_mem_nodup (cellsFrom_names scope.names 0 (s.heap.objs.size + 1) [] [] rfl ▸ hnd) hm), x.above n c hm⟩
  have NN : News (hideAll s.heap (news.map (·.1))) s.heap.objs.size h₁ (cells ++ news) := fun p hp => by
    rcases List.mem_append.mp hp with hp | hp
    · refine ⟨(NC p hp).1, (NC p hp).2.1, ?_⟩
      cases q : (hideAll s.heap (news.map (·.1))).get? p.1 with
      | none => rfl
      | some o => have := of_hideAll _ q; rw [(NC p hp).2.2] at this; cases this
    · exact ⟨hk₁ _ _ (N p hp).1, Nat.ne_of_lt (Heap.lt_size (N p hp).1), hideAll_none _ (List.mem_map_of_mem hp)⟩
  exact wpAny_mono (h _ s.heap.objs.size h₁ tk cells G.1 ⟨x.toInCall.ns, fun b o e => hk₁ b o (of_hideAll _ e), Nat.le_of_eq (hideAll_size _ _)⟩ NN Y G.2.1 (fun p hp => Heap.lt_size (N p hp).1))
    (fun fl s' hl => by cases fl <;> exact hl) fun _ _ y => y

theorem ground_back {A₀ : Around} {base h₀ g g' : Heap} {outer : List Env} {env : Env} {L : Addr} {m : Str → Option Value} (K : Below A₀ base outer h₀) (F : Fr h₀ L g m) (hf : env.frame = some L) (T : KtsTurn ((env :: outer).filterMap (·.frame)) g g') :
    ∃ h₁, KtsTurn (outer.filterMap (·.frame)) h₀ h₁ ∧ Fr h₁ L g' m ∧ Below A₀ base outer h₁ := by
  have e : (env :: outer).filterMap (·.frame) = (envOf "" env.scope L 0 .none :: outer).filterMap (·.frame) := by
    simp [hf, show (envOf "" env.scope L 0 .none).frame = some L from rfl]
  refine kts_ground (name := "") (scope := env.scope) (a := 0) (cd := .none) (B := hideAll g' ((env :: outer).filterMap (·.frame))) K F (fun b o hb nm => ?_) (fun b o hb => of_hideAll _ hb) (fun b o hb _ => T.up hb)
  rw [← e] at nm
  exact hideAll_get _ (T.other b o hb nm) nm

noncomputable def Exc (F : Fm) (cls : Value) (σ : AS) (e : Value) (s : Shared) : Prop :=
  ∃ ea m g' news, e = .ref ea ∧ RaisedSN F.base g' (F.env :: F.outer) ea cls news s.heap ∧ Fr (Mp.g m) F.env.locals g' m.m ∧ g'.UpToSlots s.heap ∧ Below F.A₀ F.base F.outer m.g ∧ KtsTurn F.fs F.h₀ m.g ∧
    Led F σ m.m news ∧ GOk F s.gens ∧ s.os = F.os
inductive Fly (F : Fm) (cls : Value) (σ : AS) : Value → Shared → Prop
  | new {s s' : Shared} {m news ea n} : cls = .type n → Rep F σ s m news → Heap.NewExc s.heap s'.heap ea n → GOk F s'.gens → s'.os = F.os → Fly F cls σ (.ref ea) s'
  | made {s s' : Shared} {m news ea vs} : Rep F σ s m news → Heap.MadeExcOf s.heap s'.heap ea cls vs → GOk F s'.gens → s'.os = F.os → Fly F cls σ (.ref ea) s'
  | on {e s'} : Exc F cls σ e s' → Fly F cls σ e s'
theorem cells_none : ∀ (names : List (Str × NameKind)) (n : Nat), names.all (fun p => p.2 != .cell) = true → cellsFrom n names [] = []
  | [], _, _ => rfl
  | (x, k) :: r, n, h => by
    simp only [List.all_cons, Bool.and_eq_true, bne_iff_ne, ne_eq] at h
    unfold cellsFrom
    cases k with
    | cell => exact absurd rfl h.1
    | _ => exact cells_none r n h.2

noncomputable def BindsG (W : Wd) (F : Fm) (σ : AS) (fd : FuncData) (vs : List Value) (kw : Fl) (NB : Fl → Prop) : Prop :=
  ∀ rvs rkw, rvs.map nv = vs → nk rkw = kw → ∀ s m news, Rep F σ s m news → ∀ (A' : Around) (E' : Value → Shared → Prop) (Q : List (Str × Value) → Shared → Prop),
    (∀ h' t add binds, NB (nk binds) → Fr m.g F.env.locals h' m.m → News m.g F.env.locals h' (add ++ news) → Q binds { s with heap := h', toks := t }) → wpAny (model W.prog W.w) A' (bindArgs fd ⟨rvs, rkw⟩) Q E' s

structure Told (W : Wd) (F F' : Fm) (E' : Value → Shared → Prop) (scope : Scope) (cdv : Value) : Prop where
  code : F'.env.code = cdv
  base : F'.base = F.base
  shape : scope.names.all (fun p => p.2 != .cell) = true → ∃ name L a, F'.env = envOf name scope L a cdv
  deep : F'.A = F'.A₀.deeper F'.env
  own : ∀ hd, PassesOwnAt (model W.prog W.w) (F'.A.mark hd) F'.A F'.env E'
theorem c_gen2 (O : FmOk W F) (C : CallOk F) {f : Addr} {vs : List Value} {kw : Fl} {NB : Fl → Prop} {ps others : List Str} {name qual : Str} {params : Arguments} {body : List Stmt} {scope : Scope} {dV kV doc pm cdv ct oc : Value} {an od : Option Addr} {osl : Array (Option Value)} {P : Value → AS → Prop}
    (ho : W.K.lookup f = some ⟨oc, od, .func (fnOf name qual params body scope dV kV doc pm an cdv ct), osl⟩) (hcd : codeIn W.K cdv qual = true)
    (hb : BindsG W F σ (fnOf name qual params body scope dV kV doc pm an cdv ct) vs kw NB) (hps : ∀ nb, NB nb → nb.map (·.1) = ps) (hn : namesOk scope ps others = true) (hroom : 1 ≤ F.room)
    (hnf : scope.names.all (fun p => p.2 != .free) = true)
    (hbody : ∀ nb, NB nb → ∀ F' E', FmOk W F' → CallOk F' → F'.room + 1 = F.room → F'.env.scope = scope → Told W F F' E' scope cdv → PassesOwn (model W.prog W.w) F'.A F'.env E' →
      (scope.names.all (fun p => p.2 != .cell) = true → ∀ cls σ' e s', Fly F' cls σ' e s' → (∀ e s'', Exc F cls ⟨σ.loc, σ'.obj⟩ e s'' → E e s'') → E' e s') →
      GoF W F' E' ⟨nb.map (fun p => (p.1, some p.2)) ++ others.map (fun x => (x, none)), σ.obj⟩ (execs body F'.env) fun fl σ' => P (retv fl) ⟨σ.loc, σ'.obj⟩)
    (hco : scope.isCoroutine = false := by rfl) (hgen : scope.isGenerator = false := by rfl) (hk : scope.kind = .function := by rfl) : CodeF W F E σ (.ref f) vs kw P := fun rf rvs rkw hrf hrvs hrkw s m news R₀ => by
  obtain rfl := nv_ref hrf
  refine codeAny_call_function (fd := fnOf name qual params body scope dV kV doc pm an cdv ct) (body := body) (by have := O.depth; show F.A.depth < 1000; omega) (((R₀.X O).keeps R₀.fr.keep) _ _ ho) rfl hco hgen rfl (codeRec_of ((R₀.X O).keeps R₀.fr.keep) hcd)
    (hb rvs rkw hrvs hrkw s m news R₀ _ _ _ fun h' t add binds hNB Fr₁ N₁ => ?_)
  have R := R₀.junk (t := t) Fr₁ N₁
  have hps := hps _ hNB
  subst hps
  simp only [namesOk, Bool.and_eq_true, decide_eq_true_eq, nk_names] at hn
  obtain ⟨⟨hn1, hn2⟩, hn3⟩ := hn
  have hn1' : ∀ x ∈ binds.map (·.1) ++ others, (scope.names.lookup x = some .local ∨ scope.names.lookup x = some .cell) ∧ (x == ("__debug__" : Str)) = false := fun x hx => by
    have := List.all_eq_true.mp hn1 x hx
    simpa only [Bool.and_eq_true, Bool.or_eq_true, beq_iff_eq, Bool.not_eq_true'] using this
  have nd1 : (binds.map (·.1)).Nodup := (List.nodup_append.mp hn2).1
  obtain ⟨cr, hcr, hcr'⟩ := cells_raw R.cel
  generalize add ++ news = news at R hcr'
  generalize hs1 : ({ s with heap := h', toks := t } : Shared) = s₁ at R
  refine frame_cells (L := F.env.locals) R.bl R.fr R.nw (R.T O).nolimit C.fr C.hf O.hk (fun n x hx => ?_) hn3 (fun g L' h₁ tk cells FG F' N' Y B' hlt => ?_) hk
  · have hx' : x.1 ∈ binds.map (·.1) := List.mem_map_of_mem hx
    rcases (hn1' x.1 (List.mem_append_left _ hx')).1 with q | q
    · exact .inl q
    · exact .inr ⟨q, cellsFrom_some _ _ _ (.inl q)⟩
  · let env' := envOfC qual scope L' f cdv
    let G : Fm := { A₀ := F.A, A := F.A.deeper env', base := F.base, outer := F.env :: F.outer, h₀ := g, env := env', os := F.os, rest := F.rest ++ cr, room := F.room - 1, gn := F.gn }
    have OG : FmOk W G := ⟨O.X, O.T, hk, rfl, rfl, O.hh, by have := O.depth; show F.A.depth + 1 + (F.room - 1) ≤ 800; omega, by have := O.units; show F.A.units + 3 + 10 * (F.room - 1) ≤ 8000; omega⟩
    have CG : CallOk G := ⟨Around.frames_deeper C.fr, rfl, fun x hx => by
      have : scope.names.lookup x = some .free := hx
      have := List.all_eq_true.mp hnf _ (mem_of_lookup this)
      simp at this⟩
    have cn : ∀ p ∈ cellsFrom (L' + 1) scope.names [], ∃ o, (p.2, o) ∈ cells ∧ o.data = .cell (bindC env'.kindOf binds (fun _ => none) p.1) := CellsAre.at Y
    have hkl : ∀ x ∈ binds.map (·.1) ++ others, env'.kindOf x = some .local ∨ (env'.kindOf x = some .cell ∧ (env'.cells.lookup x).isSome = true) := fun x hx =>
      (hn1' x hx).1.imp id fun q => ⟨q, cellsFrom_some _ _ _ (.inl q)⟩
    have A1 := List.nodup_append.mp R.apart
    have RG : Rep G ⟨(nk binds).map (fun p => (p.1, some p.2)) ++ others.map (fun x => (x, none)), σ.obj⟩ { s₁ with heap := h₁, toks := tk } ⟨bindL env'.kindOf binds fun _ => none, g⟩ (cells ++ news) := by
      refine ⟨⟨fun x v hx => ?_, fun p hp => ?_, ?_, fun p hp => ?_, fun p hp => (R.obj p hp).to fun q hq _ => List.mem_append_right _ hq, fun p hp => ?_, ?_⟩, F', N', B', KtsTurn.refl, R.bare, R.os⟩
      · rcases List.mem_append.mp hx with hx | hx
        · obtain ⟨p, hp, e⟩ := List.mem_map.mp hx
          cases e
          obtain ⟨u, hu, e⟩ := nk_mem (x := p.1) (v := p.2) hp
          have hm : p.1 ∈ binds.map (·.1) := List.mem_map_of_mem (f := (·.1)) hu
          rcases hkl p.1 (List.mem_append_left _ hm) with q | ⟨q, q'⟩
          · exact .inl ⟨q, u, bindL_in q nd1 hu, e⟩
          · obtain ⟨c, hc⟩ := Option.isSome_iff_exists.mp q'
            obtain ⟨o, h1, h2⟩ := cn (p.1, c) (mem_of_lookup hc)
            exact .inr ⟨.inl q, c, o, u, hc, List.mem_append_left _ h1, by rw [h2]; exact congrArg _ (bindC_in (by rw [q]; simp) nd1 hu), e⟩
        · obtain ⟨p, hp, e⟩ := List.mem_map.mp hx
          cases e
      · have hm : p.1 ∈ binds.map (·.1) ++ others := by
          rcases List.mem_append.mp hp with hp | hp
          · obtain ⟨q, hq, rfl⟩ := List.mem_map.mp hp
            exact List.mem_append_left _ (nk_names binds ▸ List.mem_map_of_mem hq)
          · obtain ⟨q, hq, rfl⟩ := List.mem_map.mp hp
            exact List.mem_append_right _ hq
        exact ⟨(hkl _ hm).imp id .inl, (hn1' _ hm).2⟩
      · have : ((nk binds).map (fun p => (p.1, some p.2)) ++ others.map (fun x => (x, (none : Option Value)))).map (·.1) = binds.map (·.1) ++ others := by
          simp [nk, Function.comp_def]
        show (List.map _ _).Nodup
        rw [this]; exact hn2
      · obtain ⟨o, h1, h2⟩ := cn p hp
        exact ⟨o, _, List.mem_append_left _ h1, h2⟩
      · rcases List.mem_append.mp hp with hp | hp
        · exact List.mem_append_right _ (R.rst p hp)
        · exact List.mem_append_right _ (hcr' p hp)
      · refine List.nodup_append.mpr ⟨cellsFrom_addrs _ _ _ (by simp) (by simp), ?_, fun c hc b hb e => ?_⟩
        · show (addrsOf σ.obj ++ (F.rest ++ cr).map (·.1)).Nodup
          rw [List.map_append, ← List.append_assoc, hcr]
          exact List.nodup_append.mpr ⟨A1.2.1, A1.1, fun x hx y hy e => A1.2.2 y hy x hx e.symm⟩
        · subst e
          have : L' + 1 ≤ c := cellsFrom_ge scope.names (L' + 1) (L' + 1) [] (Nat.le_refl _) (by simp) c hc
          have hlt' : (c : Nat) < L' := by
            rcases List.mem_append.mp hb with hb | hb
            · obtain ⟨p, hp, hb⟩ := List.mem_flatMap.mp hb
              obtain ⟨o, ho⟩ := (R.obj p hp).ex hb
              exact hlt _ ho
            · obtain ⟨p, hp, rfl⟩ := List.mem_map.mp hb
              rcases List.mem_append.mp hp with hp | hp
              · exact hlt _ (R.rst p hp)
              · exact hlt _ (hcr' p hp)
          exact absurd (Nat.lt_of_lt_of_le hlt' (Nat.le_of_succ_le this)) (Nat.lt_irrefl _)
    have cell' : ∀ {n' : List (Addr × Obj)}, (∀ p ∈ G.rest, p ∈ n') → ∀ p ∈ F.env.cells, ∀ o, (p.2, o) ∈ news → (p.2, o) ∈ n' := fun {n'} hr p hp o ho => by
      have : p.2 ∈ cr.map (·.1) := hcr ▸ List.mem_map_of_mem hp
      obtain ⟨q, hq, e⟩ := List.mem_map.mp this
      have hq' := hcr' q hq
      have : q = (p.2, o) := Prod.ext e (News.one R.nw (c := p.2) (by rw [← e]; exact hq') ho)
      exact this ▸ hr q (List.mem_append_right _ hq)
    have ledBack : ∀ {σ' : AS} {m'} {n'}, Led G σ' m' n' → Led F ⟨σ.loc, σ'.obj⟩ m.m n' := fun {σ' m' n'} R' => by
      refine ⟨fun x v hx => (R.loc x v hx).to fun c o hc ho' => cell' R'.rst (x, c) (mem_of_lookup hc) o ho', R.knd, R.nod, fun p hp => ?_, R'.obj, fun p hp => R'.rst p (List.mem_append_left _ hp), ?_⟩
      · obtain ⟨o, u, h1, h2⟩ := R.cel p hp
        exact ⟨o, u, cell' R'.rst p hp o h1, h2⟩
      · have A2 := (List.nodup_append.mp R'.apart).2.1
        have A2 : (addrsOf σ'.obj ++ (F.rest ++ cr).map (·.1)).Nodup := A2
        rw [List.map_append, ← List.append_assoc, hcr] at A2
        have A3 := List.nodup_append.mp A2
        exact List.nodup_append.mpr ⟨A3.2.1, A3.1, fun x hx y hy e => A3.2.2 y hy x hx e.symm⟩
    have fly : scope.names.all (fun p => p.2 != .cell) = true → ∀ cls σ' e s', Fly G cls σ' e s' → (∀ e s'', Exc F cls ⟨σ.loc, σ'.obj⟩ e s'' → E e s'') → Lv W G E e s' := fun hnc cls σ' e s' hf hE => by
      have he : env' = envOf qual scope L' f cdv := by
        show envOfC qual scope L' f cdv = _
        unfold envOfC
        rw [cells_none _ _ hnc]
        rfl
      have back : ∀ {ea : Addr} {m' : Mp} {n' : List (Addr × Obj)} {s'' : Shared}, RaisedSN F.base m'.g (F.env :: F.outer) ea cls n' s''.heap → m'.g.UpToSlots s''.heap → KtsTurn G.fs g m'.g → Led G σ' m'.m n' → GOk F s''.gens → s''.os = F.os → E (.ref ea) s'' := fun {ea m' n' s''} x1 x2 x3 x4 x5 x6 => by
        obtain ⟨h₂, T₂, F₂, B₂⟩ := ground_back R.bl FG C.hf x3
        exact hE _ _ ⟨ea, ⟨m.m, h₂⟩, m'.g, n', rfl, x1, F₂, x2, B₂, R.tn.trans T₂, ledBack x4, x5, x6⟩
      show wpAny _ (F.A.deeper env') (leaving env' e) _ _ _
      rw [he]
      cases hf with
      | @new s₀ _ m' n' ea n hc R' hx hb ho =>
        subst hc
        have hF := R'.fr
        have hN := R'.nw
        exact leave_newS R'.bl hx hF hN (fun h' y1 y2 y3 => back y1 y3 R'.tn R'.toLed hb ho) hk
      | @made s₀ _ m' n' ea vs R' hx hb ho =>
        have hF := R'.fr
        have hN := R'.nw
        exact leave_raiseS R'.bl hx hF hN (fun h' t y1 y2 y3 => back (by
          obtain ⟨⟨B, z1, z2, z3, z4, z5⟩, z6⟩ := y1
          exact ⟨B, _, z1, z2, z3, z4⟩) y3 R'.tn R'.toLed hb ho) hk
      | on hx =>
        obtain ⟨ea, m', g', n', rfl, y1, y2, y3, y4, y5, y6, y7, y8⟩ := hx
        refine leave_onSN (outer := F.env :: F.outer) (base := F.base) (g₂ := g') y4 y2 (he ▸ y1) y3 fun h' z1 z2 z3 => back z1 z3 y5 y6 y7 y8
    refine wpAny_mono (hbody _ hNB G (Lv W G E) OG CG (Nat.sub_add_cancel hroom) rfl ⟨rfl, rfl, fun hnc => ⟨qual, L', f, by show envOfC qual scope L' f cdv = _; unfold envOfC; rw [cells_none _ _ hnc]; rfl⟩, rfl, fun hd => PassesOwnAt.leaving⟩ PassesOwn.leaving fly _ _ _ RG) (fun fl s' ⟨σ', m', n', hP, R'⟩ => ?_) fun _ _ z => z
    obtain ⟨h₂, T₂, F₂, B₂⟩ := ground_back R.bl FG C.hf R'.tn
    have hL' : ∃ o, m'.g.get? F.env.locals = some o := by
      obtain ⟨o, _, _, q, _⟩ := F₂.ns
      exact ⟨o, q⟩
    refine ⟨⟨σ.loc, σ'.obj⟩, ⟨m.m, h₂⟩, n', (by cases fl <;> exact hP), ledBack R'.toLed, ⟨?_, fun b o e => R'.fr.keep b o (F₂.keep b o e), F₂.above⟩, fun p hp => ⟨(R'.nw p hp).1, fun q => ?_, kts_none F₂.keep (R'.nw p hp).2.2⟩, B₂, R.tn.trans T₂, R'.bare, R'.os⟩
    · obtain ⟨o, es, ep, q, r⟩ := F₂.ns
      exact ⟨o, es, ep, R'.fr.keep _ _ q, r⟩
    · obtain ⟨o, ho⟩ := hL'
      have := (R'.nw p hp).2.2
      rw [q, ho] at this; cases this

theorem c_code2 (O : FmOk W F) (C : CallOk F) {f : Addr} {vs : List Value} {kw nb : Fl} {ps others : List Str} {name qual : Str} {params : Arguments} {body : List Stmt} {scope : Scope} {dV kV doc pm cdv ct oc : Value} {an od : Option Addr} {osl : Array (Option Value)} {P : Value → AS → Prop}
    (ho : W.K.lookup f = some ⟨oc, od, .func (fnOf name qual params body scope dV kV doc pm an cdv ct), osl⟩) (hcd : codeIn W.K cdv qual = true)
    (hb : Binds W.K (fnOf name qual params body scope dV kV doc pm an cdv ct) vs kw nb) (hps : nb.map (·.1) = ps) (hn : namesOk scope ps others = true) (hroom : 1 ≤ F.room)
    (hnf : scope.names.all (fun p => p.2 != .free) = true)
    (hbody : ∀ F' E', FmOk W F' → CallOk F' → F'.room + 1 = F.room → F'.env.scope = scope → Told W F F' E' scope cdv → PassesOwn (model W.prog W.w) F'.A F'.env E' →
      (scope.names.all (fun p => p.2 != .cell) = true → ∀ cls σ' e s', Fly F' cls σ' e s' → (∀ e s'', Exc F cls ⟨σ.loc, σ'.obj⟩ e s'' → E e s'') → E' e s') →
      GoF W F' E' ⟨nb.map (fun p => (p.1, some p.2)) ++ others.map (fun x => (x, none)), σ.obj⟩ (execs body F'.env) fun fl σ' => P (retv fl) ⟨σ.loc, σ'.obj⟩)
    (hco : scope.isCoroutine = false := by rfl) (hgen : scope.isGenerator = false := by rfl) (hk : scope.kind = .function := by rfl) : CodeF W F E σ (.ref f) vs kw P :=
  c_gen2 O C (NB := fun x => x = nb) ho hcd (fun rvs rkw h1 h2 s m news R A' E' Q k => by
    obtain ⟨binds, hbind, e⟩ := hb rvs rkw h1 h2
    exact kp_binds ((R.X O).keeps R.fr.keep) hbind _ _ _ _ (k s.heap s.toks [] binds e R.fr R.nw)) (fun x e => e ▸ hps) hn hroom hnf (fun x e => by subst e; exact hbody) hco hgen hk

theorem c_fn2 (O : FmOk W F) (C : CallOk F) {f : Addr} {vs : List Value} {kw nb : Fl} {ps others : List Str} {name qual : Str} {params : Arguments} {body : List Stmt} {scope : Scope} {dV kV doc pm cdv ct oc : Value} {an od : Option Addr} {osl : Array (Option Value)} {P : Value → AS → Prop}
    (ho : W.K.lookup f = some ⟨oc, od, .func (fnOf name qual params body scope dV kV doc pm an cdv ct), osl⟩) (hcd : codeIn W.K cdv qual = true)
    (hb : Binds W.K (fnOf name qual params body scope dV kV doc pm an cdv ct) vs kw nb) (hps : nb.map (·.1) = ps) (hn : namesOk scope ps others = true) (hroom : 1 ≤ F.room)
    (hnf : scope.names.all (fun p => p.2 != .free) = true)
    (hbody : ∀ F' E', FmOk W F' → CallOk F' → F'.room + 1 = F.room → F'.env.scope = scope → Told W F F' E' scope cdv → PassesOwn (model W.prog W.w) F'.A F'.env E' →
      (scope.names.all (fun p => p.2 != .cell) = true → ∀ cls σ' e s', Fly F' cls σ' e s' → (∀ e s'', Exc F cls ⟨σ.loc, σ'.obj⟩ e s'' → E e s'') → E' e s') →
      GoF W F' E' ⟨nb.map (fun p => (p.1, some p.2)) ++ others.map (fun x => (x, none)), σ.obj⟩ (execs body F'.env) fun fl σ' => P (retv fl) ⟨σ.loc, σ'.obj⟩)
    (hco : scope.isCoroutine = false := by rfl) (hgen : scope.isGenerator = false := by rfl) (hk : scope.kind = .function := by rfl) : CallF W F E σ (.ref f) vs kw P :=
  (c_code2 O C ho hcd hb hps hn hroom hnf hbody hco hgen hk).call
theorem c_gen (O : FmOk W F) (C : CallOk F) {f : Addr} {vs : List Value} {kw : Fl} {NB : Fl → Prop} {ps others : List Str} {name qual : Str} {params : Arguments} {body : List Stmt} {scope : Scope} {dV kV doc pm cdv ct oc : Value} {an od : Option Addr} {osl : Array (Option Value)} {P : Value → AS → Prop}
    (ho : W.K.lookup f = some ⟨oc, od, .func (fnOf name qual params body scope dV kV doc pm an cdv ct), osl⟩) (hcd : codeIn W.K cdv qual = true)
    (hb : BindsG W F σ (fnOf name qual params body scope dV kV doc pm an cdv ct) vs kw NB) (hps : ∀ nb, NB nb → nb.map (·.1) = ps) (hn : namesOk scope ps others = true) (hroom : 1 ≤ F.room)
    (hnf : scope.names.all (fun p => p.2 != .free) = true)
    (hbody : ∀ nb, NB nb → ∀ F' E', FmOk W F' → CallOk F' → F'.room + 1 = F.room → F'.env.scope = scope → PassesOwn (model W.prog W.w) F'.A F'.env E' →
      (scope.names.all (fun p => p.2 != .cell) = true → ∀ cls σ' e s', Fly F' cls σ' e s' → (∀ e s'', Exc F cls ⟨σ.loc, σ'.obj⟩ e s'' → E e s'') → E' e s') →
      GoF W F' E' ⟨nb.map (fun p => (p.1, some p.2)) ++ others.map (fun x => (x, none)), σ.obj⟩ (execs body F'.env) fun fl σ' => P (retv fl) ⟨σ.loc, σ'.obj⟩)
    (hco : scope.isCoroutine = false := by rfl) (hgen : scope.isGenerator = false := by rfl) (hk : scope.kind = .function := by rfl) : CodeF W F E σ (.ref f) vs kw P :=
  c_gen2 O C ho hcd hb hps hn hroom hnf (fun nb h F' E' O' C' h1 h2 _ h3 h4 => hbody nb h F' E' O' C' h1 h2 h3 h4) hco hgen hk
theorem c_code (O : FmOk W F) (C : CallOk F) {f : Addr} {vs : List Value} {kw nb : Fl} {ps others : List Str} {name qual : Str} {params : Arguments} {body : List Stmt} {scope : Scope} {dV kV doc pm cdv ct oc : Value} {an od : Option Addr} {osl : Array (Option Value)} {P : Value → AS → Prop}
    (ho : W.K.lookup f = some ⟨oc, od, .func (fnOf name qual params body scope dV kV doc pm an cdv ct), osl⟩) (hcd : codeIn W.K cdv qual = true)
    (hb : Binds W.K (fnOf name qual params body scope dV kV doc pm an cdv ct) vs kw nb) (hps : nb.map (·.1) = ps) (hn : namesOk scope ps others = true) (hroom : 1 ≤ F.room)
    (hnf : scope.names.all (fun p => p.2 != .free) = true)
    (hbody : ∀ F' E', FmOk W F' → CallOk F' → F'.room + 1 = F.room → F'.env.scope = scope → PassesOwn (model W.prog W.w) F'.A F'.env E' →
      (scope.names.all (fun p => p.2 != .cell) = true → ∀ cls σ' e s', Fly F' cls σ' e s' → (∀ e s'', Exc F cls ⟨σ.loc, σ'.obj⟩ e s'' → E e s'') → E' e s') →
      GoF W F' E' ⟨nb.map (fun p => (p.1, some p.2)) ++ others.map (fun x => (x, none)), σ.obj⟩ (execs body F'.env) fun fl σ' => P (retv fl) ⟨σ.loc, σ'.obj⟩)
    (hco : scope.isCoroutine = false := by rfl) (hgen : scope.isGenerator = false := by rfl) (hk : scope.kind = .function := by rfl) : CodeF W F E σ (.ref f) vs kw P :=
  c_code2 O C ho hcd hb hps hn hroom hnf (fun F' E' O' C' h1 h2 _ h3 h4 => hbody F' E' O' C' h1 h2 h3 h4) hco hgen hk
theorem c_fn (O : FmOk W F) (C : CallOk F) {f : Addr} {vs : List Value} {kw nb : Fl} {ps others : List Str} {name qual : Str} {params : Arguments} {body : List Stmt} {scope : Scope} {dV kV doc pm cdv ct oc : Value} {an od : Option Addr} {osl : Array (Option Value)} {P : Value → AS → Prop}
    (ho : W.K.lookup f = some ⟨oc, od, .func (fnOf name qual params body scope dV kV doc pm an cdv ct), osl⟩) (hcd : codeIn W.K cdv qual = true)
    (hb : Binds W.K (fnOf name qual params body scope dV kV doc pm an cdv ct) vs kw nb) (hps : nb.map (·.1) = ps) (hn : namesOk scope ps others = true) (hroom : 1 ≤ F.room)
    (hnf : scope.names.all (fun p => p.2 != .free) = true)
    (hbody : ∀ F' E', FmOk W F' → CallOk F' → F'.room + 1 = F.room → F'.env.scope = scope → PassesOwn (model W.prog W.w) F'.A F'.env E' →
      (scope.names.all (fun p => p.2 != .cell) = true → ∀ cls σ' e s', Fly F' cls σ' e s' → (∀ e s'', Exc F cls ⟨σ.loc, σ'.obj⟩ e s'' → E e s'') → E' e s') →
      GoF W F' E' ⟨nb.map (fun p => (p.1, some p.2)) ++ others.map (fun x => (x, none)), σ.obj⟩ (execs body F'.env) fun fl σ' => P (retv fl) ⟨σ.loc, σ'.obj⟩)
    (hco : scope.isCoroutine = false := by rfl) (hgen : scope.isGenerator = false := by rfl) (hk : scope.kind = .function := by rfl) : CallF W F E σ (.ref f) vs kw P :=
  (c_code O C ho hcd hb hps hn hroom hnf hbody hco hgen hk).call

/-! the machine one unit deeper -/
noncomputable def Fm.in1 (F : Fm) : Fm := { F with A := F.A.in1, room := F.room - 1 }
theorem FmOk.in1 (O : FmOk W F) (hr : 1 ≤ F.room) : FmOk W F.in1 := ⟨O.X, O.T, O.hk, O.hg, O.hb, O.hh, by have := O.depth; show F.A.depth + (F.room - 1) ≤ 800; omega, by have := O.units; show F.A.units + 1 + 10 * (F.room - 1) ≤ 8000; omega⟩
theorem CallOk.in1 (C : CallOk F) : CallOk F.in1 := ⟨C.fr, C.hf, C.nofree⟩
theorem Rep.in1 {s : Shared} {m : Mp} {news : List (Addr × Obj)} (R : Rep F σ s m news) : Rep F.in1 σ s m news := ⟨⟨R.loc, R.knd, R.nod, R.cel, R.obj, R.rst, R.apart⟩, R.fr, R.nw, R.bl, R.tn, R.bare, R.os⟩
theorem Rep.out1 {s : Shared} {m : Mp} {news : List (Addr × Obj)} (R : Rep F.in1 σ s m news) : Rep F σ s m news := ⟨⟨R.loc, R.knd, R.nod, R.cel, R.obj, R.rst, R.apart⟩, R.fr, R.nw, R.bl, R.tn, R.bare, R.os⟩
end

end
/-! text M5 -/
section

/-! rooms -/
theorem rm1 {m a : Nat} (hr : m ≤ a) (k : Nat.ble 1 m = true) : 1 ≤ a := Nat.le_trans (Nat.le_of_ble_eq_true k) hr
theorem rmx {a b m n : Nat} (h : b + 1 = a) (hr : m ≤ a) (k : Nat.ble (n + 1) m = true) : n ≤ b := Nat.le_of_succ_le_succ (Nat.le_trans (Nat.le_of_ble_eq_true k) (Nat.le_trans hr (Nat.le_of_eq h.symm)))
theorem map0 {vs : List Value} (h : vs.map nv = []) : vs = [] := List.map_eq_nil_iff.mp h
theorem mapC {vs l : List Value} {a : Value} (h : vs.map nv = a :: l) : ∃ x r, vs = x :: r ∧ nv x = a ∧ r.map nv = l := List.map_eq_cons_iff.mp h
theorem map1 {vs : List Value} {a : Value} (h : vs.map nv = [a]) : ∃ x, vs = [x] ∧ nv x = a :=
  Exists.elim (mapC h) fun x h => Exists.elim h fun r h => ⟨x, h.1.trans (congrArg (x :: ·) (map0 h.2.2)), h.2.1⟩
theorem map2 {vs : List Value} {a b : Value} (h : vs.map nv = [a, b]) : ∃ x y, vs = [x, y] ∧ nv x = a ∧ nv y = b :=
  Exists.elim (mapC h) fun x h => Exists.elim h fun r h => Exists.elim (map1 h.2.2) fun y h' => ⟨x, y, h.1.trans (congrArg (x :: ·) h'.1), h.2.1, h'.2⟩
theorem map3 {vs : List Value} {a b c : Value} (h : vs.map nv = [a, b, c]) : ∃ x y z, vs = [x, y, z] ∧ nv x = a ∧ nv y = b ∧ nv z = c :=
  Exists.elim (mapC h) fun x h => Exists.elim h fun r h => Exists.elim (map2 h.2.2) fun y h' => Exists.elim h' fun z h' => ⟨x, y, z, h.1.trans (congrArg (x :: ·) h'.1), h.2.1, h'.2⟩
theorem nk0 {kw : List (Str × Value)} (h : nk kw = []) : kw = [] := List.map_eq_nil_iff.mp h
theorem nkC {kw : List (Str × Value)} {l : List (Str × Value)} {n : Str} {a : Value} (h : nk kw = (n, a) :: l) : ∃ x r, kw = (n, x) :: r ∧ nv x = a ∧ nk r = l := by
  obtain ⟨p, r, e, q, h⟩ := List.map_eq_cons_iff.mp h
  have hn : p.1 = n := congrArg Prod.fst q
  have hp : p = (n, p.2) := Prod.ext hn rfl
  exact ⟨p.2, r, e.trans (congrArg (· :: r) hp), congrArg Prod.snd q, h⟩
theorem nk1 {kw : List (Str × Value)} {n : Str} {a : Value} (h : nk kw = [(n, a)]) : ∃ x, kw = [(n, x)] ∧ nv x = a :=
  Exists.elim (nkC h) fun x h => Exists.elim h fun r h => ⟨x, h.1.trans (congrArg ((n, x) :: ·) (nk0 h.2.2)), h.2.1⟩
/-! how a call binds its parameters -/
section
variable {K : Frag} {fd : FuncData}
theorem binds_10 {f : Value → List (Str × Value)} {g : Value → Fl} {v : Value} (h : ∀ a S, peek K S (bindArgs fd ⟨[a], []⟩) = some (f a)) (e : ∀ a, nk (f a) = g (nv a)) : Binds K fd [v] [] (g v) := fun rvs rkw q1 q2 => by
  obtain ⟨a, rfl, rfl⟩ := map1 q1
  obtain rfl := nk0 q2
  exact ⟨f a, h a, e a⟩
theorem binds_20 {f : Value → Value → List (Str × Value)} {g : Value → Value → Fl} {v v' : Value} (h : ∀ a b S, peek K S (bindArgs fd ⟨[a, b], []⟩) = some (f a b)) (e : ∀ a b, nk (f a b) = g (nv a) (nv b)) : Binds K fd [v, v'] [] (g v v') := fun rvs rkw q1 q2 => by
  obtain ⟨a, b, rfl, rfl, rfl⟩ := map2 q1
  obtain rfl := nk0 q2
  exact ⟨f a b, h a b, e a b⟩
theorem binds_30 {f : Value → Value → Value → List (Str × Value)} {g : Value → Value → Value → Fl} {v v' v'' : Value} (h : ∀ a b c S, peek K S (bindArgs fd ⟨[a, b, c], []⟩) = some (f a b c)) (e : ∀ a b c, nk (f a b c) = g (nv a) (nv b) (nv c)) :
    Binds K fd [v, v', v''] [] (g v v' v'') := fun rvs rkw q1 q2 => by
  obtain ⟨a, b, c, rfl, rfl, rfl, rfl⟩ := map3 q1
  obtain rfl := nk0 q2
  exact ⟨f a b c, h a b c, e a b c⟩
theorem binds_11 {n : Str} {f : Value → Value → List (Str × Value)} {g : Value → Value → Fl} {v v' : Value} (h : ∀ a b S, peek K S (bindArgs fd ⟨[a], [(n, b)]⟩) = some (f a b)) (e : ∀ a b, nk (f a b) = g (nv a) (nv b)) : Binds K fd [v] [(n, v')] (g v v') := fun rvs rkw q1 q2 => by
  obtain ⟨a, rfl, rfl⟩ := map1 q1
  obtain ⟨b, rfl, rfl⟩ := nk1 q2
  exact ⟨f a b, h a b, e a b⟩
theorem binds_21 {n : Str} {f : Value → Value → Value → List (Str × Value)} {g : Value → Value → Value → Fl} {v v' v'' : Value} (h : ∀ a b c S, peek K S (bindArgs fd ⟨[a, b], [(n, c)]⟩) = some (f a b c)) (e : ∀ a b c, nk (f a b c) = g (nv a) (nv b) (nv c)) :
    Binds K fd [v, v'] [(n, v'')] (g v v' v'') := fun rvs rkw q1 q2 => by
  obtain ⟨a, b, rfl, rfl, rfl⟩ := map2 q1
  obtain ⟨c, rfl, rfl⟩ := nk1 q2
  exact ⟨f a b c, h a b c, e a b c⟩
end

section
variable {W : Wd} {F : Fm} {E : Value → Shared → Prop} {σ : AS} {α : Type}

/-! is -/
noncomputable def typeOrTop : Value → Bool
  | .type _ => true
  | .bool _ => true
  | .none => true
  | _ => false
theorem plainIs_of {a b : Value} (ha : typeOrTop a = true) (hb : typeOrTop b = true) : plainIs a b = true := by
  cases a <;> simp only [typeOrTop, Bool.false_eq_true] at ha <;> cases b <;> simp only [typeOrTop, Bool.false_eq_true] at hb <;> rfl
theorem x_is_t {a b : Value} {P : Bool → AS → Prop} (ha : typeOrTop a = true) (hb : typeOrTop b = true) (h : P (a == b) σ) : Cmp W F E σ .Is a b P := fun va vb hva hvb s m news R => by
  have ea : va = a := by subst hva; cases va <;> first | rfl | cases ha
  have eb : vb = b := by subst hvb; cases vb <;> first | rfl | cases hb
  subst ea eb
  exact wpAny_is_plain (plainIs_of ha hb) ⟨σ, m, news, ⟨_, rfl, h⟩, R⟩
theorem x_isnot_t {a b : Value} {P : Bool → AS → Prop} (ha : typeOrTop a = true) (hb : typeOrTop b = true) (h : P (!(a == b)) σ) : Cmp W F E σ .IsNot a b P := fun va vb hva hvb s m news R => by
  have ea : va = a := by subst hva; cases va <;> first | rfl | cases ha
  have eb : vb = b := by subst hvb; cases vb <;> first | rfl | cases hb
  subst ea eb
  exact wpAny_isNot_plain (plainIs_of ha hb) ⟨σ, m, news, ⟨_, rfl, h⟩, R⟩
theorem x_isnot_k (O : FmOk W F) {x y : Addr} {ox oy : Obj} {P : Bool → AS → Prop} (hx : W.K.lookup x = some ox) (hy : W.K.lookup y = some oy) (hne : (x == y) = false) (hc : (ox.cls == .type "tuple") = false) (h : P true σ) :
    Cmp W F E σ .IsNot (.ref x) (.ref y) P := fun va vb hva hvb s m news R => by
  obtain rfl := nv_ref hva; obtain rfl := nv_ref hvb
  have X := (R.X O).keeps R.fr.keep
  exact wpAny_isNot_ref_other (by simpa using hne) (X _ _ hx) (X _ _ hy) (by simpa using hc) ⟨σ, m, news, ⟨_, rfl, h⟩, R⟩
theorem x_isnot_self {x : Addr} {P : Bool → AS → Prop} (h : P false σ) : Cmp W F E σ .IsNot (.ref x) (.ref x) P := fun va vb hva hvb s m news R => by
  obtain rfl := nv_ref hva; obtain rfl := nv_ref hvb
  exact wpAny_isNot_ref_self ⟨σ, m, news, ⟨_, rfl, h⟩, R⟩

/-! built-ins called -/
noncomputable def tyName : Value → Option String
  | .int _ _ => some "int"
  | .str _ _ => some "str"
  | .bytes _ _ => some "bytes"
  | .bool _ => some "bool"
  | .none => some "NoneType"
  | _ => none
theorem f_type {v : Value} {n : String} {P : Value → AS → Prop} (hn : tyName v = some n) (h : P (.type n) σ) : CallF W F E σ (.type "type") [v] [] P := fun rf rvs rkw h1 h2 h3 s m news R => by
  obtain rfl := nv_type h1
  obtain ⟨x, rfl, rfl⟩ := map1 h2
  obtain rfl := nk0 h3
  cases x <;> first | cases hn | skip
  all_goals exact call_type_of (by rfl) (by decide) ⟨σ, m, news, h, R⟩
theorem f_int {i : Int} {t : Tok} {P : Value → AS → Prop} (h : P (.int i 0) σ) : CallF W F E σ (.type "int") [.int i t] [] P := fun rf rvs rkw h1 h2 h3 s m news R => by
  obtain rfl := nv_type h1
  obtain ⟨x, rfl, q⟩ := map1 h2
  obtain rfl := nk0 h3
  obtain ⟨u, rfl⟩ := nv_int q
  exact call_int_int ⟨σ, m, news, h, R⟩
theorem f_len_str {x : Str} {t : Tok} {P : Value → AS → Prop} (hx : x.length ≤ sizeLine) (h : P (.int x.length 0) σ) : CallF W F E σ (.builtin "len") [.str x t] [] P := fun rf rvs rkw h1 h2 h3 s m news R => by
  obtain rfl := nv_builtin h1
  obtain ⟨y, rfl, q⟩ := map1 h2
  obtain rfl := nk0 h3
  obtain ⟨u, rfl⟩ := nv_str q
  exact PySem.P.len_str (by have := hx; rw [sizeLine_eq] at this; omega) ⟨σ, m, news, h, R.tok _⟩
theorem o_add_str {x y : Str} {t u : Tok} {P : Value → AS → Prop} (hz : x.length + y.length ≤ sizeLine) (h : P (.str (x ++ y) 0) σ) : Op2 W F E σ (.str x t) (.str y u) (binaryOp .Add) P := fun va vb ha hb s m news R => by
  obtain ⟨_, rfl⟩ := nv_str ha; obtain ⟨_, rfl⟩ := nv_str hb
  exact SBL.add (fun t' k _ => ⟨σ, m, news, h, R.tok _⟩) hz
theorem o_iadd_str {x y : Str} {t u : Tok} {P : Value → AS → Prop} (hz : x.length + y.length ≤ sizeLine) (h : P (.str (x ++ y) 0) σ) : Op2 W F E σ (.str x t) (.str y u) (inplaceOp .Add) P := fun va vb ha hb s m news R => by
  obtain ⟨_, rfl⟩ := nv_str ha; obtain ⟨_, rfl⟩ := nv_str hb
  exact SBL.iadd (fun t' k _ => ⟨σ, m, news, h, R.tok _⟩) hz

/-! slices of a text -/
noncomputable abbrev Part (W : Wd) (F : Fm) (E : Value → Shared → Prop) (σ : AS) (e : Option Expr) (P : Value → AS → Prop) : Prop := GoV W F E σ (evalPart e F.env) P
theorem p_none {P : Value → AS → Prop} (h : P .none σ) : Part W F E σ none P := fun s m news R => wpAny_evalPart_none ⟨σ, m, news, h, R⟩
theorem p_some {e : Expr} {P : Value → AS → Prop} (h : GoV W F E σ (eval e F.env) P) : Part W F E σ (some e) P := fun s m news R => wpAny_evalPart_some (h s m news R)
inductive IsPt : Value → Option Int → Prop
  | none : IsPt .none none
  | int {i : Int} {t : Tok} : IsPt (.int i t) (some i)
theorem IsPt.nv {v : Value} {o : Option Int} (h : IsPt (nv v) o) : IsPt v o := by cases v <;> cases h <;> constructor
theorem tempGo_str (e : Expr) (x : Str) (t : Tok) (r : Value) : letTemporaryGo e (.str x t) r = pure () := by cases e <;> rfl
theorem Rep.pushed {s : Shared} {m : Mp} {news : List (Addr × Obj)} (R : Rep F σ s m news) {h' : Heap} {t : Nat} (F' : Fr m.g F.env.locals h' m.m) (N' : News m.g F.env.locals h' news) : Rep F σ { s with heap := h', toks := t } m news :=
  ⟨R.toLed, F', N', R.bl, R.tn, R.bare, R.os⟩
noncomputable abbrev kSl3 (P : Value → AS → Prop) (o a : Value) : Value → AS → Prop := fun b σ₃ => ∃ x i j, o = .str x 0 ∧ IsPt a i ∧ IsPt b j ∧ x.length ≤ sizeLine ∧ P (.str (Txt.slice x i j) 0) σ₃
noncomputable abbrev kSl2 (W : Wd) (F : Fm) (E : Value → Shared → Prop) (hi : Option Expr) (P : Value → AS → Prop) (o : Value) : Value → AS → Prop := fun a σ₂ => Part W F E σ₂ hi (kSl3 P o a)
noncomputable abbrev kSl1 (W : Wd) (F : Fm) (E : Value → Shared → Prop) (lo hi : Option Expr) (P : Value → AS → Prop) : Value → AS → Prop := fun o σ₁ => Part W F E σ₁ lo (kSl2 W F E hi P o)
theorem v_slice_str {e lo hi p pos} {P : Value → AS → Prop} (h : GoV W F E σ (eval e F.env) (kSl1 W F E lo hi P)) : GoV W F E σ (eval (.Subscript e (.Slice lo hi none p) pos) F.env) P := fun s m news R => by
  refine Subscript_ (goE (h s m news R) (fun o s₁ σ₁ m₁ n₁ h₁ R₁ => wpAny_Slice (goE (h₁ s₁ m₁ n₁ R₁) (fun a s₂ σ₂ m₂ n₂ h₂ R₂ => goE (h₂ s₂ m₂ n₂ R₂) (fun b s₃ σ₃ m₃ n₃ h₃ R₃ => wpAny_evalPart_none ?_)))))
  obtain ⟨x, i, j, ho, ha, hb, hz, hP⟩ := h₃
  obtain ⟨t, rfl⟩ := nv_str ho
  cases ha.nv <;> cases hb.nv
  · exact slice_strN_nn R₃.fr R₃.nw (fun h' t' k F' N' => ⟨σ₃, m₃, n₃, hP, R₃.pushed F' N'⟩) rfl (tempGo_str _ _ _) hz
  · exact slice_strN_ns R₃.fr R₃.nw (fun h' t' k F' N' => ⟨σ₃, m₃, n₃, hP, R₃.pushed F' N'⟩) rfl (tempGo_str _ _ _) hz
  · exact slice_strN_sn R₃.fr R₃.nw (fun h' t' k F' N' => ⟨σ₃, m₃, n₃, hP, R₃.pushed F' N'⟩) rfl (tempGo_str _ _ _) hz
  · exact slice_strN_ss R₃.fr R₃.nw (fun h' t' k F' N' => ⟨σ₃, m₃, n₃, hP, R₃.pushed F' N'⟩) rfl (tempGo_str _ _ _) hz

/-! while -/
theorem s_while {t b o pos} {P : Flow → AS → Prop} (hE : PassesOwn (model W.prog W.w) F.A F.env E) (I : Nat → AS → Prop)
    (turn : ∀ n σ, I n σ → Go W F E σ (isTrue t F.env (eval t F.env)) fun c σ₁ => Sel c (GoF W F E σ₁ (execs b F.env) fun f σ₂ => match f with
        | .next | .cont => ∃ k, k < n ∧ I k σ₂
        | .brk => P .next σ₂
        | .ret v => P (.ret v) σ₂) (GoF W F E σ₁ (execs o F.env) P))
    (n : Nat) (h : I n σ) : GoF W F E σ (exec (.While t b o pos) F.env) P := fun s m news R => by
  refine wpAny_While (codeAny_whileLoop (R := fun r s' => match r with | .ok f => ∃ σ' m' news', P (nf f) σ' ∧ Rep F σ' s' m' news' | .error e => cameBackBy (model W.prog W.w) F.A F.env E e s')
    (fun n s => ∃ σ m news, I n σ ∧ Rep F σ s m news) (fun n s ⟨σ, m, news, hI, R⟩ => ?_) n ⟨σ, m, news, h, R⟩)
  refine wpAny_passesOwn hE (goE (turn n σ hI s m news R) (fun c s₁ σ₁ m₁ n₁ h₁ R₁ => h₁.ite (fun z => ?_) fun z => ?_))
  · refine wpAny_passesOwn hE (goE (z s₁ m₁ n₁ R₁) (fun f s₂ σ₂ m₂ n₂ h₂ R₂ => ?_))
    cases f with
    | next => obtain ⟨k, hk, hI⟩ := h₂; exact ⟨k, hk, σ₂, m₂, n₂, hI, R₂⟩
    | cont => obtain ⟨k, hk, hI⟩ := h₂; exact ⟨k, hk, σ₂, m₂, n₂, hI, R₂⟩
    | brk => exact ⟨σ₂, m₂, n₂, h₂, R₂⟩
    | ret v => exact ⟨σ₂, m₂, n₂, h₂, R₂⟩
  · exact wpAny_passesOwn hE (wpAny_mono (z s₁ m₁ n₁ R₁) (fun f s₂ z => z) fun _ _ e => e)

theorem no_interactive (O : FmOk W F) : interactive F.env = false := by
  unfold interactive
  rw [O.hk]; rfl
end

section
variable {W : Wd} {F : Fm} {E : Value → Shared → Prop} {σ : AS}
theorem nx_next {rest : List Stmt} {P : Flow → AS → Prop} (h : GoF W F E σ (execs rest F.env) P) : Nx W F E rest P .next σ := h
theorem nx_ret {rest : List Stmt} {P : Flow → AS → Prop} {v : Value} (h : P (.ret v) σ) : Nx W F E rest P (.ret v) σ := h
theorem nx_brk {rest : List Stmt} {P : Flow → AS → Prop} (h : P .brk σ) : Nx W F E rest P .brk σ := h
theorem nx_cont {rest : List Stmt} {P : Flow → AS → Prop} (h : P .cont σ) : Nx W F E rest P .cont σ := h
theorem w_00 (O : FmOk W F) {pos f} {P : Value → AS → Prop} (hk : keepB W.K f = true) (h : CallF W F E σ f [] [] P) : CallW W F E σ pos f [] [] [] P := w_call0 O hk h
theorem w_01 (O : FmOk W F) {pos f a} {P : Value → AS → Prop} (hk : keepB W.K f = true) (h : CallF W F E σ f [a] [] P) : CallW W F E σ pos f [a] [] [] P := w_call0 O hk h
theorem w_10 (O : FmOk W F) {pos f e as} {P : Value → AS → Prop} (hk : keepB W.K f = true) (h : Args W F E σ pos (e :: as) (kCall0 W F E f P))
    (he : starEach (e :: as) F.env = (false, eval e F.env) :: starEach as F.env := by rfl) (hplain : (backTo pos (starEach as F.env)).any (·.1) = false := by rfl) : CallW W F E σ pos f [] (e :: as) [] P := w_call O hk h he hplain
theorem w_11 (O : FmOk W F) {pos f a e as} {P : Value → AS → Prop} (hk : keepB W.K f = true) (h : Args W F E σ pos (e :: as) (kCall1 W F E f a P))
    (he : starEach (e :: as) F.env = (false, eval e F.env) :: starEach as F.env := by rfl) (hplain : (backTo pos (starEach as F.env)).any (·.1) = false := by rfl) : CallW W F E σ pos f [a] (e :: as) [] P := w_call O hk h he hplain
end

/-! the global names of a def -/
noncomputable def globOk (K : Frag) (scope : Scope) (gl : Fl) : Bool := gl.all fun p => scope.names.lookup p.1 == some .globalImplicit && !(p.1 == ("__debug__" : Str)) &&
  (match nsIn K mainGlobals p.1 with
    | some (some v) => nv v == p.2
    | some none => !(p.1 == ("__name__" : Str)) && (match bootBuiltins p.1 with | some v => nv v == p.2 | none => false)
    | none => false)
theorem globs_of {W : Wd} {F : Fm} {scope : Scope} {gl : Fl} (hs : F.env.scope = scope) (h : globOk W.K scope gl = true) : Globs W F gl := fun p hp => by
  have := List.all_eq_true.mp h p hp
  simp only [Bool.and_eq_true, beq_iff_eq, Bool.not_eq_true'] at this
  obtain ⟨⟨h1, h2⟩, h3⟩ := this
  refine ⟨by show F.env.scope.names.lookup p.1 = _; rw [hs]; exact h1, h2, ?_⟩
  split at h3
  · rename_i v q
    rw [← beq_iff_eq.mp h3]; exact .top q
  · rename_i q
    simp only [Bool.and_eq_true, Bool.not_eq_true', beq_eq_false_iff_ne] at h3
    obtain ⟨h4, h5⟩ := h3
    split at h5
    · rename_i v q'
      rw [← beq_iff_eq.mp h5]; exact .bi q q' h4
    · cases h5
  · cases h3

end
/-! text M6 -/
section
/-! what the walk does by itself: a step is a lemma's name and what each of its arguments is settled with (_: it stays) -/
def tqs (a : String) : Lean.TSyntax `tactic :=
  if a == "O" then ⟨.node .none `Lean.Parser.Tactic.omega #[.atom .none "omega", .node .none `Lean.Parser.Tactic.optConfig #[.node .none `null #[]]]⟩
  else match ("A Lean.Parser.Tactic.assumption assumption|M PySem.W.tacticKcj_m kcj_m|K tacticKernel_rfl kernel_rfl|R PySem.W.tacticTb_rel tb_rel|P PySem.W.tacticKd_p kd_p|W PySem.W.tacticLcg_src lcg_src|D PySem.W.tacticKtr_unf ktr_unf".splitOn "|").map (·.splitOn " ") |>.find? (·.head? == some a) with
  | some [_, k, w] => ⟨.node .none k.toName #[.atom .none w]⟩
  | _ => ⟨.missing⟩
def tqt (r : Array (Lean.TSyntax `term) × Array (Lean.TSyntax `tactic) × Array (Lean.TSyntax `tactic)) (a : String) : Lean.MacroM (Array (Lean.TSyntax `term) × Array (Lean.TSyntax `tactic) × Array (Lean.TSyntax `tactic)) := do
  if a == "_" then return (r.1.push (← `(?_)), r.2)
  else
    let n := Lean.mkIdent (← Lean.MonadQuotation.addMacroScope (.mkNum `a r.1.size))
    let c ← `(tactic| (case $n:ident => $(tqs a):tactic))
    let xs := r.1.push (← `(?$n:ident))
    return if a == "W" then (xs, r.2.1, r.2.2.push c) else (xs, r.2.1.push c, r.2.2)
def tq1 (s : String) : Lean.MacroM (Lean.TSyntax `tactic) := do
  match (s.splitOn " ").filter (· != "") with
  | [] => `(tactic| fail)
  | f :: as =>
    let f := Lean.mkIdent f.toName
    if as.isEmpty then `(tactic| exact $f)
    else
      let r ← as.foldlM tqt (#[], #[], #[])
      let xs := r.1
      let cs := r.2.1 ++ r.2.2
      `(tactic| (refine' $f $xs*; $[$cs:tactic];*))
def tq (s : String) : Lean.MacroM (Lean.TSyntax `tactic) := do
  match (s.splitOn "|").reverse with
  | [] => `(tactic| fail)
  | l :: r => r.foldlM (fun t a => do `(tactic| first | $(← tq1 a):tactic | $t:tactic)) (← tq1 l)
theorem s_exprO {W : Wd} {F : Fm} {E : Value → Shared → Prop} {σ : AS} (O : FmOk W F) {e pos} {P : Flow → AS → Prop} (h : GoV W F E σ (eval e F.env) (kCst P)) (hs : swapsWith e none pos.line F.env = pure false) :
    GoF W F E σ (exec (.Expr e pos) F.env) P := s_expr h (no_interactive O) hs
theorem r_strK {W : Wd} {F : Fm} {E : Value → Shared → Prop} {σ : AS} {x : Str} {t : Tok} {P : Bool → AS → Prop} (hx : Nat.ble x.length 1000000 = true) (h : P ((x.length : Int) != 0) σ) : Tru W F E σ (.str x t) P :=
  r_str (by rw [sizeLine_eq]; exact Nat.le_trans (Nat.le_of_ble_eq_true hx) (by decide)) h
theorem sel_fd {p : Prop} [Decidable p] {a b : Prop} (h : ¬ p) (k : b) : Sel (decide p) a b := sel_f (decide_eq_false h) k
theorem sel_td {p : Prop} [Decidable p] {a b : Prop} (h : p) (k : a) : Sel (decide p) a b := sel_t (decide_eq_true h) k
end
local macro_rules | `(tactic| lcg_src) => `(tactic| (intros; with_unfolding_all rfl))
section
end
local macro_rules | `(tactic| ktr_unf) => `(tactic| decide +kernel)
section
end
local macro_rules | `(tactic| tb_rel) => do
  let t ← tq "Put.head|Put.tail R|PutO.head|PutO.tail R|PutF.head|PutF.tail R"
  `(tactic| first | assumption | with_reducible $t:tactic)
section
end
local macro_rules | `(tactic| krn_off) => `(tactic| ((case ho => exact rfl); (case hcd => kernel_rfl); (case hps => exact rfl); (case hn => kernel_rfl); (case hnf => kernel_rfl); (all_goals try exact rfl)))
section
-- one step: a tree
end
local macro_rules | `(tactic| lcg_sub) => do
  let t ← tq "n_loc A M _|v_attr _ W|c_int _|c_str _|s_cons _|s_if _|s_nil _|t_cmp _ W|s_asg A A _ W|t_not _|t_and _|t_or _|t_and_nil _|t_or_nil _|n_glob A A M _|v_call _|v_meth _ W|a_nil _|a_cons _ W|c_none _|c_bool _|s_seta _ W|s_auga _|s_ret _|s_brk _|s_cont _|v_if _|v_bin _|v_slice_str _|p_none _|p_some _|v_neg _|s_exprO A _ W|t_val _ W"
  `(tactic| with_reducible $t:tactic)
section
-- one step: what is done with a value
end
local macro_rules | `(tactic| lcg_off) => do
  let t ← tq "nx_next _|asg_i R _|nx_ret _|nx_brk _|nx_cont _|x_eq_str _|x_in_str _|x_is_none _|x_isnot_none _|x_ge_int _|w_00 A K _|w_01 A K _|w_10 A K _ W W|w_11 A K _ W W|r_str A _|r_strK K _|r_bool _|x_ne_str _|x_notin_str _|x_eq_int _|x_ne_int _|x_lt_int _|x_gt_int _|x_is_t W W _|x_isnot_t W W _|o_add _|o_sub _|o_neg _|f_type W _|f_int _"
  `(tactic| with_reducible $t:tactic)
section
theorem sel_i {c : Bool} {a b : Prop} (h : Sel c a b) : Sel c a b := h
theorem go_i {α : Type} {W : Wd} {F : Fm} {E : Value → Shared → Prop} {σ : AS} {t : Sem α} {P : α → AS → Prop} (h : Go W F E σ t P) : Go W F E σ t P := h
end
local macro_rules | `(tactic| tb_start) => do
  let t ← tq "sel_t W _|sel_f W _|sel_t A _|sel_f A _|sel_t D _|sel_f D _|sel_fd O _|sel_td O _"
  `(tactic| ((with_reducible refine sel_i ?_); $t:tactic))
section
end
local macro_rules | `(tactic| kcf_all) => do
  let t ← tq "m_inst A M A M K _"
  `(tactic| with_reducible $t:tactic)
section
end
local macro_rules | `(tactic| kcj_in) => `(tactic| repeat (first | ((with_reducible fail_if_success refine go_i ?_); (first | tb_start | kcf_all | lcg_off)) | lcg_sub))
section

end
/-! text M7 -/
section
open PySem.Builtin PySem.Builtin.Str

theorem map4 {l : List Value} {a b c d : Value} (h : l.map nv = [a, b, c, d]) : ∃ x y z w, l = [x, y, z, w] ∧ nv x = a ∧ nv y = b ∧ nv z = c ∧ nv w = d :=
  Exists.elim (mapC h) fun x h => Exists.elim h fun r h => Exists.elim (map3 h.2.2) fun y h' => Exists.elim h' fun z h' => Exists.elim h' fun w h' => ⟨x, y, z, w, h.1.trans (congrArg (x :: ·) h'.1), h.2.1, h'.2⟩
theorem gives_find4 (x y : Str) (i : Int) (t u v z : Tok) : Gives («str.find» ⟨[.str x t, .str y u, .int i v, .int x.length z], []⟩) (.int (Txt.find3 x y i)) := by
  have e : min (max (0 : Int) (if (x.length : Int) < 0 then (x.length : Int) + x.length else x.length)).toNat x.length = x.length := by
    rw [if_neg (by omega)]; omega
  show Gives (match occurrences x y (fromIndex x.length i) (min (max (0 : Int) (if (x.length : Int) < 0 then (x.length : Int) + x.length else x.length)).toNat x.length) 1 with | k :: _ => retInt k | [] => (do rule "str.find.not-found"; retInt (-1))) _
  rw [e]
  unfold Txt.find3
  cases occurrences x y (fromIndex x.length i) x.length 1 with
  | nil => exact .rule (.of_eq rfl)
  | cons k _ => exact .of_eq rfl

section
variable {W : Wd} {F : Fm} {E : Value → Shared → Prop} {σ : AS}
theorem x_in1 {x : Str} {c : Nat} {t u : Tok} {P : Bool → AS → Prop} (h : P (decide (c ∈ x.cps.toList)) σ) : Cmp W F E σ .In (.str ⟨#[c]⟩ u) (.str x t) P := x_in_str (by rw [StrLaws.found_one]; exact h)
theorem x_notin1 {x : Str} {c : Nat} {t u : Tok} {P : Bool → AS → Prop} (h : P (!decide (c ∈ x.cps.toList)) σ) : Cmp W F E σ .NotIn (.str ⟨#[c]⟩ u) (.str x t) P := x_notin_str (by rw [StrLaws.found_one]; exact h)

end
section
variable {W : Wd} {F : Fm} {E : Value → Shared → Prop} {σ : AS}
/-! properties -/
noncomputable def propA (K : Frag) (C : Addr) (n : Str) (fget : Addr) : Bool := plainGet K C n && hasDictIn K C &&
  (match findIn K (.ref C) n with
   | some (some (.ref p)) => specialIn K (.ref p) "__get__" == some (some (.builtin "property.__get__")) && takesIn K (.ref p) == some true && (match recIn K p "property" with | some (.ref g :: _) => g == fget | _ => false)
   | _ => false)
theorem g_prop (O : FmOk W F) {a C d fget : Addr} {fs : Fl} {n : Str} {P : Value → AS → Prop} (ha : (a, .inst C d fs) ∈ σ.obj) (hp : propA W.K C n fget = true)
    (h : ∀ E', CodeF W F.in1 E' σ (.ref fget) [.ref a] [] fun v σ' => handedIn v = true ∧ P v σ') : GetA W F E σ (.ref a) n P := fun vo ho s m news R => by
  obtain rfl := nv_ref ho
  obtain ⟨sl, es, k, I, hd, _, hf, nd⟩ := R.inst ha
  simp only [propA, Bool.and_eq_true] at hp
  obtain ⟨⟨p1, p2⟩, p3⟩ := hp
  split at p3
  · rename_i p q
    simp only [Bool.and_eq_true, beq_iff_eq] at p3
    obtain ⟨⟨p3, p4⟩, p5⟩ := p3
    split at p5
    · rename_i g r q'
      obtain rfl := beq_iff_eq.mp p5
      refine get_prop R.fr (R.X O) I p1 p2 q p3 p4 q' ?_
      refine codeAny_mono (h (fun e s' => wpAny (model W.prog W.w) F.A (noteIf true (.ref a) (.str n s.toks) e) (fun _ s'' => E e s'') E s') (.ref g) [.ref a] [] rfl rfl rfl _ m news (R.tok _).in1) fun r s' hr => ?_
      cases r with
      | error e => exact hr
      | ok fl =>
        cases fl with
        | ret v =>
          obtain ⟨σ', m', n', ⟨h1, h2⟩, R'⟩ := hr
          rw [handed_nv] at h1
          exact handed_on h1 ⟨σ', m', n', h2, R'.out1⟩
        | _ => exact hr.elim
    · cases p5
  · cases p3

/-! while, with what holds at its end -/
noncomputable def Wh (n : Nat) (I : Nat → AS → Prop) (J : AS → Prop) (R : Flow → AS → Prop) (f : Flow) (σ : AS) : Prop := match f with
  | .next | .cont => ∃ k, k < n ∧ I k σ
  | .brk => J σ
  | .ret v => R (.ret v) σ
theorem wh_next {n k : Nat} {I : Nat → AS → Prop} {J : AS → Prop} {R : Flow → AS → Prop} (h : I k σ) (hk : k < n) : Wh n I J R .next σ := ⟨k, hk, h⟩
theorem wh_cont {n k : Nat} {I : Nat → AS → Prop} {J : AS → Prop} {R : Flow → AS → Prop} (h : I k σ) (hk : k < n) : Wh n I J R .cont σ := ⟨k, hk, h⟩
theorem wh_brk {n : Nat} {I : Nat → AS → Prop} {J : AS → Prop} {R : Flow → AS → Prop} (h : J σ) : Wh n I J R .brk σ := h
theorem s_whileJ {t b o pos} {P : Flow → AS → Prop} (hE : PassesOwn (model W.prog W.w) F.A F.env E) (I : Nat → AS → Prop) (J : AS → Prop)
    (turn : ∀ n σ, I n σ → Go W F E σ (isTrue t F.env (eval t F.env)) fun c σ₁ => Sel c (GoF W F E σ₁ (execs b F.env) (Wh n I J P)) (GoF W F E σ₁ (execs o F.env) P))
    (fin : ∀ σ, J σ → P .next σ) (n : Nat) (h : I n σ) : GoF W F E σ (exec (.While t b o pos) F.env) P :=
  s_while hE I (fun n σ hI => (turn n σ hI).mono fun c σ₁ hs => ⟨fun hc => (hs.1 hc).mono fun f σ₂ hf => by
    cases f with
    | next => exact hf
    | cont => exact hf
    | brk => exact fin _ hf
    | ret v => exact hf, hs.2⟩) n h

theorem strsAre_of : ∀ {vs : List Value} {ys : List Str}, vs.map nv = ys.map (fun y => Value.str y 0) → StrsAre vs ys
  | [], [], _ => .nil
  | [], _ :: _, h => by simp at h
  | _ :: _, [], h => by simp at h
  | v :: vs, y :: ys, h => by
    simp only [List.map_cons, List.cons.injEq] at h
    obtain ⟨u, rfl⟩ := nv_str h.1
    exact .cons y u (strsAre_of h.2)
noncomputable def InT (a : Value) (vs : List Value) (P : Bool → AS → Prop) (σ : AS) : Prop := ∃ (x : Str) (ys : List Str), a = .str x 0 ∧ vs = ys.map (fun y => Value.str y 0) ∧ ys.length ≤ sizeLine ∧ P (ys.any (· == x)) σ
theorem in_t2 {x y z : Str} {P : Bool → AS → Prop} (h : P ([y, z].any (· == x)) σ) : InT (.str x 0) [.str y 0, .str z 0] P σ := ⟨x, [y, z], rfl, rfl, by rw [sizeLine_eq]; exact Nat.le_of_ble_eq_true (by kernel_rfl), h⟩
noncomputable abbrev kInT2 (P : Bool → AS → Prop) (a : Value) : List Value → AS → Prop := fun vs => InT a vs P
noncomputable abbrev kInT (W : Wd) (F : Fm) (E : Value → Shared → Prop) (tp : Pos) (elts : List Expr) (P : Bool → AS → Prop) : Value → AS → Prop := fun a σ₁ => Args W F E σ₁ tp elts (kInT2 P a)
theorem t_in_tup {l : Expr} {elts : List Expr} {k : Nat} {tp pos : Pos} {P : Bool → AS → Prop}
    (h : GoV W F E σ (eval l F.env) (kInT W F E tp elts P))
    (hm : behindInMarks .In (.Tuple elts k tp) = false := by with_unfolding_all rfl) : Go W F E σ (isTrue (.Compare l [.In] [.Tuple elts k tp] pos) F.env (eval (.Compare l [.In] [.Tuple elts k tp] pos) F.env)) P := fun s m news R => by
  refine wpAny_isTrue_Compare1 (goE (h s m news R) (fun a s₁ σ₁ m₁ n₁ h₁ R₁ => Tuple_ (wpAny_mono (h₁ s₁ m₁ n₁ R₁) (fun vs s₂ ⟨σ₂, m₂, n₂, ⟨x, ys, ha, hvs, hl, hP⟩, R₂⟩ => ?_) fun _ _ e => e))) hm
  obtain ⟨u, rfl⟩ := nv_str ha
  refine newTuple_N R₂.fr R₂.nw (fun h' F' N' => ?_) (by have := congrArg List.length hvs; simp at this; rw [this]; exact hl)
  have R₃ := R₂.junk (t := s₂.toks) (add := [_]) F' N'
  refine in_tuple_strs ⟨_, (N' _ (List.mem_cons_self ..)).1, rfl, _, rfl⟩ (strsAre_of hvs) ?_
  exact wpAny_truthy_bool ⟨σ₂, m₂, _, hP, R₃⟩
end
end
local macro_rules | `(tactic| lcg_sub) => do
  let t ← tq "t_in_tup _ W"
  `(tactic| with_reducible $t:tactic)
section
open PySem.Builtin PySem.Builtin.Str
end
local macro_rules | `(tactic| lcg_off) => do
  let t ← tq "x_in1 _|x_notin1 _|in_t2 _"
  `(tactic| with_reducible $t:tactic)
section
open PySem.Builtin PySem.Builtin.Str

end
/-! text M8 -/
section
open PySem.Builtin

section
variable {W : Wd} {F : Fm} {E : Value → Shared → Prop} {σ : AS} {lc : Lc} {ob ob' : List (Addr × AO)} {s : Shared} {m : Mp} {news : List (Addr × Obj)}

theorem fresh_size (R : Rep F σ s m news) {b : Addr} (hb : s.heap.objs.size ≤ b) (o : Obj) : (b, o) ∉ news := fun ho => Nat.lt_irrefl _ (Nat.lt_of_lt_of_le (Heap.lt_size (R.nw _ ho).1) hb)

/-! deques, empty -/
noncomputable abbrev dq : AO := .raw dqO
theorem r_dq {a : Addr} {P : Bool → AS → Prop} (hm : (a, dq) ∈ σ.obj) (h : P false σ) : Tru W F E σ (.ref a) P := fun va ha s m news R => by
  obtain rfl := nv_ref ha
  have := R.obj _ hm
  exact dq_truthy (R.nw _ this).1 ⟨σ, m, news, h, R.tok _⟩
theorem f_dq {P : Value → AS → Prop} (h : ∀ a, P (.ref a) ⟨lc, (a, dq) :: ob⟩) : CallF W F E ⟨lc, ob⟩ (.type "collections.deque") [] [] P := fun rf rvs rkw h1 h2 h3 s m news R => by
  obtain rfl := nv_type h1
  obtain rfl := map0 h2
  obtain rfl := nk0 h3
  refine dq_make R.fr R.nw fun h' F' N' => ⟨_, m, (s.heap.objs.size, dqO) :: news, h s.heap.objs.size, ?_⟩
  exact R.add (add := [_]) (t := s.toks) F' N' (by simp [AO.addrs]) (fun b hb o => fresh_size R (by simp only [AO.addrs, List.mem_singleton] at hb; exact hb ▸ Nat.le_refl _) o) (List.mem_cons_self ..)

/-! the machine elsewhere -/
noncomputable def Fm.at (F : Fm) (A' : Around) : Fm := { F with A := A', room := F.room - 1 }
theorem FmOk.at (O : FmOk W F) {A' : Around} (hr : 1 ≤ F.room) (hd : A'.depth ≤ F.A.depth + 1) (hu : A'.units ≤ F.A.units + 10) (hh : A'.handled = F.A.handled) : FmOk W (F.at A') :=
  ⟨O.X, O.T, O.hk, O.hg, O.hb, hh.trans O.hh, by have := O.depth; show A'.depth + (F.room - 1) ≤ 800; omega, by have := O.units; show A'.units + 10 * (F.room - 1) ≤ 8000; omega⟩
theorem CallOk.at (C : CallOk F) {A' : Around} (hf : A'.frames = F.A.frames) : CallOk (F.at A') := ⟨hf.trans C.fr, C.hf, C.nofree⟩
theorem Rep.at {A' : Around} (R : Rep F σ s m news) : Rep (F.at A') σ s m news := ⟨⟨R.loc, R.knd, R.nod, R.cel, R.obj, R.rst, R.apart⟩, R.fr, R.nw, R.bl, R.tn, R.bare, R.os⟩
theorem Rep.un {A' : Around} (R : Rep (F.at A') σ s m news) : Rep F σ s m news := ⟨⟨R.loc, R.knd, R.nod, R.cel, R.obj, R.rst, R.apart⟩, R.fr, R.nw, R.bl, R.tn, R.bare, R.os⟩
theorem Exc.un {A' : Around} {cls e : Value} (h : Exc (F.at A') cls σ e s) : Exc F cls σ e s := by
  obtain ⟨ea, m, g', n, h1, h2, h3, h4, h5, h6, h7, h8⟩ := h
  exact ⟨ea, m, g', n, h1, h2, h3, h4, h5, h6, ⟨h7.loc, h7.knd, h7.nod, h7.cel, h7.obj, h7.rst, h7.apart⟩, h8⟩

/-! an object is made -/
theorem c_new (O : FmOk W F) (C : CallOk F) (hr : 2 ≤ F.room) {K fI : Addr} {vs : List Value} {kw : Fl} {P : Value → AS → Prop} (hm : makesIn W.K K = true) (hi : findIn W.K (.ref K) "__init__" = some (some (.ref fI))) (hf : isFn W.K (.ref fI) = true)
    (h : ∀ x dx A', FmOk W (F.at A') → CallOk (F.at A') → (F.at A').room + 1 = F.room → CodeF W (F.at A') E ⟨lc, (x, .inst K dx []) :: ob⟩ (.ref fI) (.ref x :: vs) kw fun v σ' => v = .none ∧ P (.ref x) σ') :
    CodeF W F E ⟨lc, ob⟩ (.ref K) vs kw P := fun rf rvs rkw h1 h2 h3 s m news R => by
  obtain rfl := nv_ref h1
  refine make_K R.fr R.nw ((R.X O).keeps R.fr.keep) hm hi (beq_iff_eq.mp hf) fun x dx h' F' N' l1 l2 => ?_
  have R' : Rep F ⟨lc, (x, .inst K dx []) :: ob⟩ { s with heap := h', toks := s.toks } m ([(x, instObj K dx), (dx, emptyDict)] ++ news) := by
    refine R.add F' N' ?_ (fun b hb o ho => ?_) ⟨#[], [], 0, List.mem_cons_self .., List.mem_cons_of_mem _ (List.mem_cons_self ..), .nil, by simp⟩
    · simp only [AO.addrs, List.nodup_cons, List.mem_singleton, List.not_mem_nil, not_false_eq_true, List.nodup_nil, and_true]
      exact fun e => absurd l2 (by rw [e]; exact Nat.lt_irrefl _)
    · have := l1 _ ho
      simp only [AO.addrs, List.mem_cons, List.not_mem_nil, or_false] at hb
      rcases hb with rfl | rfl
      · exact absurd (Nat.lt_trans this l2) (Nat.lt_irrefl _)
      · exact absurd this (Nat.lt_irrefl _)
  refine codeAny_mono (h x dx (F.A.under (Code.builtin "type.__call__" ⟨.ref K :: rvs, rkw⟩)) (O.at (by omega) (Nat.le_refl _) ?_ rfl) (C.at rfl) (by show F.room - 1 + 1 = _; omega) (.ref fI) (.ref x :: rvs) rkw rfl (by simp [h2, nv]) h3 _ _ _ R'.at) fun r s' hr => ?_
  · show F.A.units + _ ≤ _
    exact Nat.add_le_add_left (show (Code.builtin "type.__call__" ⟨.ref K :: rvs, rkw⟩).cUnits ≤ 10 from Nat.le_of_ble_eq_true rfl) _
  · cases r with
    | error e => exact hr
    | ok fl =>
      cases fl with
      | ret v =>
        obtain ⟨σ', m', n', ⟨hv, hP⟩, R''⟩ := hr
        exact ⟨nv_none hv, σ', m', n', hP, R''.un⟩
      | _ => exact hr.elim
end

end
/-! text M9 -/
section
open PySem.Builtin

/-! the frame of a piece of code -/
noncomputable def Fm.wr (F : Fm) (raws : List (Addr × Obj)) : Fm := { F with rest := F.rest ++ raws }
section
variable {W : Wd} {F : Fm} {E : Value → Shared → Prop} {σ : AS} {lc : Lc} {ob ob' : List (Addr × AO)} {s : Shared} {m : Mp} {news : List (Addr × Obj)}
theorem FmOk.wr (O : FmOk W F) (raws : List (Addr × Obj)) : FmOk W (F.wr raws) := ⟨O.X, O.T, O.hk, O.hg, O.hb, O.hh, O.depth, O.units⟩
theorem CallOk.wr (C : CallOk F) (raws : List (Addr × Obj)) : CallOk (F.wr raws) := ⟨C.fr, C.hf, C.nofree⟩
theorem addrs_append (a b : List (Addr × AO)) : addrsOf (a ++ b) = addrsOf a ++ addrsOf b := by simp [addrsOf]
theorem raws_of {n : List (Addr × Obj)} : ∀ {l : List (Addr × AO)}, (∀ p ∈ l, OAt n p.1 p.2) → ∃ raws : List (Addr × Obj), raws.map (·.1) = addrsOf l ∧ (∀ q ∈ raws, q ∈ n) ∧ ∀ p ∈ l, OAt raws p.1 p.2
  | [], _ => ⟨[], rfl, (fun _ h => nomatch h), (fun _ h => nomatch h)⟩
  | (a, x) :: l, h => by
    obtain ⟨r, h1, h2, h3⟩ := raws_of fun p hp => h p (List.mem_cons_of_mem _ hp)
    have hx := h (a, x) (List.mem_cons_self ..)
    have : ∃ r₀ : List (Addr × Obj), r₀.map (·.1) = x.addrs a ∧ (∀ q ∈ r₀, q ∈ n) ∧ OAt r₀ a x := by
      cases x with
      | inst C d fs =>
        obtain ⟨sl, es, m, a1, a2, a3⟩ := hx
        exact ⟨[(a, ⟨.ref C, some d, .plain, sl⟩), (d, dictOf es m)], rfl, fun q hq => by
          rcases List.mem_cons.mp hq with rfl | hq
          · exact a1
          · rw [List.mem_singleton.mp hq]; exact a2, sl, es, m, by simp, by simp, a3⟩
      | list xs =>
        obtain ⟨vs, m, a1, a2⟩ := hx
        exact ⟨[_], rfl, fun q hq => by rw [List.mem_singleton.mp hq]; exact a1, vs, m, List.mem_singleton.mpr rfl, a2⟩
      | raw o => exact ⟨[(a, o)], rfl, fun q hq => by rw [List.mem_singleton.mp hq]; exact hx, List.mem_singleton.mpr rfl⟩
    obtain ⟨r₀, b1, b2, b3⟩ := this
    refine ⟨r₀ ++ r, by simp [addrsOf, b1] at h1 ⊢; rw [h1], fun q hq => (List.mem_append.mp hq).elim (b2 q) (h2 q), fun p hp => ?_⟩
    rcases List.mem_cons.mp hp with rfl | hp
    · exact b3.to fun q hq _ => List.mem_append_left _ hq
    · exact (h3 p hp).to fun q hq _ => List.mem_append_right _ hq
theorem perm_addrs {a b : List (Addr × AO)} (h : a.Perm b) : (addrsOf a).Perm (addrsOf b) := h.flatMap_right _
theorem Led.aside {mm : Str → Option Value} {big small fr : List (Addr × AO)} (R : Led F ⟨lc, big⟩ mm news) (hp : big.Perm (small ++ fr)) :
    ∃ raws, Led (F.wr raws) ⟨lc, small⟩ mm news ∧ ∀ {lc' small' mm' news'}, Led (F.wr raws) ⟨lc', small'⟩ mm' news' → Led F ⟨lc', small' ++ fr⟩ mm' news' := by
  obtain ⟨raws, h1, h2, h3⟩ := raws_of fun p hp' => R.obj p (hp.mem_iff.mpr (List.mem_append_right small hp'))
  have A0 := R.apart
  have e1 : (addrsOf big ++ F.rest.map (·.1)).Perm (addrsOf small ++ (F.rest ++ raws).map (·.1)) := by
    have := perm_addrs hp
    rw [addrs_append] at this
    rw [List.map_append, h1]
    refine (this.append_right _).trans ?_
    rw [List.append_assoc]
    exact (List.perm_append_comm).append_left _
  refine ⟨raws, ⟨R.loc, R.knd, R.nod, R.cel, fun p hp' => R.obj p (hp.mem_iff.mpr (List.mem_append_left _ hp')), fun p hp' => ?_, ((e1.append_left _).nodup_iff).mp A0⟩, fun {lc' small' mm' news'} R' => ?_⟩
  · rcases List.mem_append.mp hp' with q | q
    · exact R.rst p q
    · exact h2 p q
  · have A1 := R'.apart
    have e2 : (addrsOf (small' ++ fr) ++ F.rest.map (·.1)).Perm (addrsOf small' ++ (F.rest ++ raws).map (·.1)) := by
      rw [addrs_append, List.map_append, h1, List.append_assoc]
      exact (List.perm_append_comm).append_left _
    refine ⟨R'.loc, R'.knd, R'.nod, R'.cel, fun p hp' => ?_, fun p hp' => R'.rst p (List.mem_append_left _ hp'), ((e2.append_left _).nodup_iff).mpr A1⟩
    rcases List.mem_append.mp hp' with q | q
    · exact R'.obj p q
    · exact (h3 p q).to fun q' hq' _ => R'.rst q' (List.mem_append_right _ hq')
theorem Exc.led {F F' : Fm} {cls e : Value} {σ σ' : AS} {s : Shared} (hF : F' = { F with rest := F'.rest }) (k : ∀ {mm news}, Led F σ mm news → Led F' σ' mm news) (h : Exc F cls σ e s) : Exc F' cls σ' e s := by
  rw [hF] at k ⊢
  exact h.imp fun _ => Exists.imp fun _ => Exists.imp fun _ => Exists.imp fun _ => And.imp_right (And.imp_right (And.imp_right (And.imp_right (And.imp_right (And.imp_right (And.imp_left k))))))
theorem Exc.back {raws : List (Addr × Obj)} {fr : List (Addr × AO)} (h2 : ∀ {lc' small' mm' news'}, Led (F.wr raws) ⟨lc', small'⟩ mm' news' → Led F ⟨lc', small' ++ fr⟩ mm' news') (cls : Value) (σ' : AS) (e : Value) (s' : Shared)
    (h : Exc (F.wr raws) cls σ' e s') : Exc F cls ⟨σ'.loc, σ'.obj ++ fr⟩ e s' := Exc.led (F := F.wr raws) (F' := F) (σ := σ') rfl h2 h
theorem Go.aside {α : Type} {t : Sem α} {P : α → AS → Prop} {big small fr : List (Addr × AO)} (hp : big.Perm (small ++ fr))
    (h : ∀ raws, (∀ cls σ' e s', Exc (F.wr raws) cls σ' e s' → Exc F cls ⟨σ'.loc, σ'.obj ++ fr⟩ e s') → Go W (F.wr raws) E ⟨lc, small⟩ t fun a σ' => P a ⟨σ'.loc, σ'.obj ++ fr⟩) : Go W F E ⟨lc, big⟩ t P := fun s m news R => by
  obtain ⟨raws, h1, h2⟩ := R.toLed.aside hp
  refine goE (F := F.wr raws) (h raws (Exc.back h2) s m news ⟨h1, R.fr, R.nw, R.bl, R.tn, R.bare, R.os⟩) (fun a s' σ' m' n' hP R' => ?_)
  exact ⟨_, m', n', hP, h2 R'.toLed, R'.fr, R'.nw, R'.bl, R'.tn, R'.bare, R'.os⟩
theorem CodeF.aside {f : Value} {vs : List Value} {kw : Fl} {P : Value → AS → Prop} {big small fr : List (Addr × AO)} (hp : big.Perm (small ++ fr))
    (h : ∀ raws, (∀ cls σ' e s', Exc (F.wr raws) cls σ' e s' → Exc F cls ⟨σ'.loc, σ'.obj ++ fr⟩ e s') → CodeF W (F.wr raws) E ⟨lc, small⟩ f vs kw fun a σ' => P a ⟨σ'.loc, σ'.obj ++ fr⟩) : CodeF W F E ⟨lc, big⟩ f vs kw P := fun rf rvs rkw q1 q2 q3 s m news R => by
  obtain ⟨raws, h1, h2⟩ := R.toLed.aside hp
  refine codeAny_mono (h raws (Exc.back h2) rf rvs rkw q1 q2 q3 s m news ⟨h1, R.fr, R.nw, R.bl, R.tn, R.bare, R.os⟩) fun r s' hr => ?_
  cases r with
  | error e => exact hr
  | ok fl =>
    cases fl with
    | ret v =>
      obtain ⟨σ', m', n', hP, R'⟩ := hr
      exact ⟨_, m', n', hP, h2 R'.toLed, R'.fr, R'.nw, R'.bl, R'.tn, R'.bare, R'.os⟩
    | _ => exact hr.elim
theorem CallF.aside {f : Value} {vs : List Value} {kw : Fl} {P : Value → AS → Prop} {big small fr : List (Addr × AO)} (hp : big.Perm (small ++ fr))
    (h : ∀ raws, (∀ cls σ' e s', Exc (F.wr raws) cls σ' e s' → Exc F cls ⟨σ'.loc, σ'.obj ++ fr⟩ e s') → CallF W (F.wr raws) E ⟨lc, small⟩ f vs kw fun a σ' => P a ⟨σ'.loc, σ'.obj ++ fr⟩) : CallF W F E ⟨lc, big⟩ f vs kw P := fun rf rvs rkw q1 q2 q3 =>
  Go.aside hp fun raws hx => h raws hx rf rvs rkw q1 q2 q3

/-! StopIteration raised -/
theorem s_raise_si (O : FmOk W F) {gl : Fl} (G : Globs W F gl) {np pos : Pos} {P : Flow → AS → Prop} (hm : (("StopIteration" : Str), Value.type "StopIteration") ∈ gl) (h : ∀ e s', Fly F (.type "StopIteration") σ e s' → E e s') :
    GoF W F E σ (exec (.Raise (some (.Name "StopIteration" np)) none pos) F.env) P := fun s m news R => by
  refine owsi_raiseC O.hh ?_ fun h' e hx => h _ _ (.made R hx.of R.bare R.os)
  obtain ⟨hl, hd, hx⟩ := G _ hm
  generalize hv : (("StopIteration" : Str), Value.type "StopIteration").2 = v₀ at hx
  dsimp only at hx hl hd hv
  cases hx with
  | @top v e =>
    have hv := nv_type hv.symm
    subst hv
    exact Name_function_global O.hk hl (loadGlobal_global (env := F.env) (by rw [O.hg]; exact (R.T O).g.keeps R.fr.keep) (mg_of (R.X O) (R.T O).g e) ⟨rfl, rfl⟩) hd
  | @bi v e hb hn =>
    have hv := nv_type hv.symm
    subst hv
    exact Name_function_global O.hk hl (loadGlobal_builtin (env := F.env) (by rw [O.hg]; exact (R.T O).g.keeps R.fr.keep) (mg_none_of (R.X O) (R.T O).g e) (by rw [O.hb]; exact (R.T O).b.keeps R.fr.keep) (((R.T O).builtins _ hn).trans hb) ⟨rfl, rfl⟩) hd
end

end
/-! text M10 -/
section
open PySem.Builtin

theorem mapSeq_at (f : Array Value → Array Value) (vs : Array Value) (n : Nat) : ∃ k, Obj.mapSeq f ⟨.type "list", none, .seq vs n, #[]⟩ = ⟨.type "list", none, .seq (f vs) k, #[]⟩ := ⟨_, rfl⟩
section
variable {W : Wd} {F : Fm} {E : Value → Shared → Prop} {σ : AS} {lc : Lc} {ob ob' : List (Addr × AO)} {s : Shared} {m : Mp} {news : List (Addr × Obj)}

/-! lists -/
theorem Rep.setList (R : Rep F σ s m news) {l : Addr} {xs ys : List Value} (U : PutO l (.list xs) (.list ys) σ.obj ob') {vs : Array Value} {n : Nat} {f : Array Value → Array Value}
    (hm : (l, (⟨.type "list", none, .seq vs n, #[]⟩ : Obj)) ∈ news) (hf : (f vs).toList.map nv = ys) (t : Nat) : ∃ news', Rep F ⟨σ.loc, ob'⟩ { s with heap := s.heap.update l (Obj.mapSeq f), toks := t } m news' := by
  obtain ⟨k, e⟩ := mapSeq_at f vs n
  have hg := R.nw _ hm
  have ho' := Heap.get?_update_self (Obj.mapSeq f) hg.1 (by rw [e]; rfl)
  rw [e] at ho'
  have N1 : News m.g F.env.locals s.heap ((l, (⟨.type "list", none, .seq vs n, #[]⟩ : Obj)) :: drop l news) := fun p hp => by
    rcases List.mem_cons.mp hp with rfl | hp
    · exact hg
    · exact R.nw _ (drop_mem hp).1
  refine ⟨_, R.putO U rfl (List.mem_cons_self ..) (R.fr.update R.nw hm (Heap.SameBut.update ..)) (N1.setHead (fun p hp => (drop_mem hp).2) (Heap.SameBut.update ..) ho') ⟨f vs, k, List.mem_cons_self .., hf⟩⟩
theorem g_update {l : Addr} {xs ys : List Value} {f : Array Value → Array Value} {P : Unit → AS → Prop} (U : PutO l (.list xs) (.list ys) σ.obj ob') (hf : ∀ vs : Array Value, vs.toList.map nv = xs → (f vs).toList.map nv = ys)
    (hx : xs.length ≤ sizeLine) (hy : ys.length ≤ sizeLine + 1) (h : P () ⟨σ.loc, ob'⟩) : Go W F E σ (Builtin.List.listUpdate (.ref l) f) P := fun s m news R => by
  obtain ⟨vs, n, hm, hv⟩ := R.obj (l, .list xs) U.mem
  have hz : vs.size ≤ sizeLine := by have := congrArg List.length hv; simp at this; rw [this]; exact hx
  have hz2 : (f vs).size ≤ sizeLine + 1 := by have := congrArg List.length (hf vs hv); simp at this; rw [this]; exact hy
  obtain ⟨news', R'⟩ := R.setList U hm (hf vs hv) s.toks
  exact listUpdate_at (R.nw _ hm).1 rfl ⟨_, m, news', h, R'⟩ hz hz2
theorem g_items {l : Addr} {xs : List Value} {P : Array Value → AS → Prop} (hl : (l, .list xs) ∈ σ.obj) (h : ∀ vs : Array Value, vs.toList.map nv = xs → P vs σ) : Go W F E σ (Builtin.List.listItems (.ref l)) P := fun s m news R => by
  obtain ⟨vs, n, hm, hv⟩ := R.obj _ hl
  exact listItems_at (R.nw _ hm).1 rfl ⟨σ, m, news, h vs hv, R⟩

/-! an exception that is caught by the machine -/
theorem Exc.land {cls e : Value} (C : CallOk F) (h : Exc F cls σ e s) : ∃ ea o m news, e = .ref ea ∧ s.heap.get? ea = some o ∧ o.cls = cls ∧ Rep F σ s m news := by
  obtain ⟨ea, m, g', news, rfl, ⟨B, a0, hB, hBG, hl, hfl⟩, hF, hsm, hK, hT, hL, hb, ho⟩ := h
  obtain ⟨o, h1, h2⟩ := hfl.there
  have e : (F.env :: F.outer).filterMap (·.frame) = (envOf "" F.env.scope F.env.locals 0 .none :: F.outer).filterMap (·.frame) := by
    simp [C.hf, show (envOf "" F.env.scope F.env.locals 0 .none).frame = some F.env.locals from rfl]
  obtain ⟨g₂, T₂, F₂, K₂⟩ := kts_ground (name := "") (scope := F.env.scope) (a := 0) (cd := .none) hK hF (fun b o hb nm => hBG b o hb (by rw [e]; exact nm)) hfl.1 hsm
  have hLn : B.get? F.env.locals = none := by
    obtain ⟨_, ⟨L', _, hf, hn', _⟩, _⟩ := hfl.2.2.1
    obtain rfl : F.env.locals = L' := Option.some.inj (C.hf.symm.trans hf)
    exact hn'
  refine ⟨ea, o, ⟨m.m, g₂⟩, news, rfl, h1, h2, hL, F₂, fun q hq => ⟨hfl.1 _ _ (hl q hq).1, (fun z => by have := (hl q hq).1; rw [z, hLn] at this; cases this), ?_⟩, K₂, hT.trans T₂, hb, ho⟩
  exact T₂.none_ _ (kts_none hF.keep (hl q hq).2.1)

/-! list() of an iterator of the text -/
noncomputable def iterA (K : Frag) (C fI fN : Addr) : Bool :=
  findIn K (.ref C) "__iter__" == some (some (.ref fI)) && isFn K (.ref fI) && findIn K (.ref C) "__next__" == some (some (.ref fN)) && isFn K (.ref fN) && findIn K (.ref C) "__len__" == some none && findIn K (.ref C) "__length_hint__" == some none
theorem sub_si : isSubtype (.type "StopIteration") (.type "StopIteration") = pure true := by rw [isSubtype_type]; kernel_rfl
theorem sub_ve : isSubtype (.type "ValueError") (.type "StopIteration") = pure false := by rw [isSubtype_type]; kernel_rfl
theorem plain_loop : plainId "list.extend.loop" = true := by decide +kernel

noncomputable def IsI (x d K : Addr) (ob : List (Addr × AO)) : Prop := (∃ fs, (x, AO.inst K d fs) ∈ ob) ∨ ∃ sl, (x, AO.raw ⟨.ref K, some d, .plain, sl⟩) ∈ ob ∧ (d, AO.raw (dictOf [] 0)) ∈ ob
theorem IsI.more {x d K : Addr} {ob : List (Addr × AO)} {p : Addr × AO} (h : IsI x d K ob) : IsI x d K (p :: ob) :=
  h.imp (fun ⟨fs, h⟩ => ⟨fs, List.mem_cons_of_mem _ h⟩) fun ⟨sl, h, k⟩ => ⟨sl, List.mem_cons_of_mem _ h, List.mem_cons_of_mem _ k⟩
theorem Rep.isI {σ : AS} (R : Rep F σ s m news) {x d K : Addr} (h : IsI x d K σ.obj) : ∃ sl es n, InstAt s.heap x ⟨.ref K, some d, .plain, sl⟩ K (some (dictOf es n)) ∧ x ∈ addrsOf σ.obj := by
  rcases h with ⟨fs, h⟩ | ⟨sl, h1, h2⟩
  · obtain ⟨sl, es, n, I, _⟩ := R.inst h
    exact ⟨sl, es, n, I, mem_addrsOf h (by simp [AO.addrs])⟩
  · exact ⟨sl, [], 0, InstAt.of_news R.nw (R.obj _ h1) (R.obj _ h2), mem_addrsOf h1 (by simp [AO.addrs])⟩
structure Iter (W : Wd) (F : Fm) (lc : Lc) (x d K fI fN : Addr) (st : List Value → List (Addr × AO) → Prop) (fin bad : List (Addr × AO) → Prop) : Prop where
  ok : iterA W.K K fI fN = true
  here : ∀ ys ob, st ys ob → IsI x d K ob
  iter : ∀ ys ob, st ys ob → ∀ A' E' l acc, FmOk W (F.at A') → CallOk (F.at A') → (F.at A').room + 1 = F.room → CodeF W (F.at A') E' ⟨lc, (l, .list acc) :: ob⟩ (.ref fI) [.ref x] [] fun v σ' => v = .ref x ∧ σ' = ⟨lc, (l, .list acc) :: ob⟩
  step : ∀ y ys ob, st (y :: ys) ob → ∀ A' E' l acc, FmOk W (F.at A') → CallOk (F.at A') → (F.at A').room + 1 = F.room → CodeF W (F.at A') E' ⟨lc, (l, .list acc) :: ob⟩ (.ref fN) [.ref x] [] fun v σ' => v = y ∧ ∃ ob', st ys ob' ∧ σ' = ⟨lc, (l, .list acc) :: ob'⟩
  stop : ∀ ob, st [] ob → ∀ A' E' l acc, FmOk W (F.at A') → CallOk (F.at A') → (F.at A').room + 1 = F.room →
    (∀ e s' ob', fin ob' → Exc (F.at A') (.type "StopIteration") ⟨lc, (l, .list acc) :: ob'⟩ e s' → E' e s') → (∀ e s' ob', bad ob' → Exc (F.at A') (.type "ValueError") ⟨lc, (l, .list acc) :: ob'⟩ e s' → E' e s') →
    CodeF W (F.at A') E' ⟨lc, (l, .list acc) :: ob⟩ (.ref fN) [.ref x] [] fun _ _ => False

theorem list_loop (O : FmOk W F) (C : CallOk F) (hr : 3 ≤ F.room) {x d K fI fN : Addr} {st : List Value → List (Addr × AO) → Prop} {fin bad : List (Addr × AO) → Prop} (I : Iter W F lc x d K fI fN st fin bad) {l : Addr} {xs : List Value} {Q : Value → Shared → Prop}
    (hz : xs.length ≤ 1000000) (hQ : ∀ ob' s m news, fin ob' → Rep F ⟨lc, (l, .list xs) :: ob'⟩ s m news → Q (.ref l) s) (hbad : ∀ e s' ob' acc, bad ob' → Exc F (.type "ValueError") ⟨lc, (l, .list acc) :: ob'⟩ e s' → E e s') :
    ∀ ys acc ob s m news, st ys ob → acc ++ ys = xs → Rep F ⟨lc, (l, .list acc) :: ob⟩ s m news →
      codeAny (model W.prog W.w) F.A.in1 (.builtin "list.extend.loop" ⟨[.ref l, .ref x, .none], []⟩) (wants (fun r s₂ => r = .none ∧ Q (.ref l) s₂) E) s := by
  have hit := I.ok
  simp only [iterA, Bool.and_eq_true, beq_iff_eq] at hit
  obtain ⟨⟨⟨⟨⟨i1, i2⟩, i3⟩, i4⟩, i5⟩, i6⟩ := hit
  intro ys
  have hA : F.A.in1.in1 = F.A.in1.in1 := rfl
  have OA : FmOk W (F.at F.A.in1.in1) := O.at (by omega) (Nat.le_succ _) (by show F.A.units + 1 + 1 ≤ _; omega) rfl
  have CA : CallOk (F.at F.A.in1.in1) := C.at rfl
  have hroom : (F.at F.A.in1.in1).room + 1 = F.room := by show F.room - 1 + 1 = _; omega
  induction ys with
  | nil =>
    intro acc ob s m news hst he R
    rw [List.append_nil] at he
    subst he
    refine codeAny_builtin PySem.F.entry_extend_loop ?_
    rw [Around.under_plainId plain_loop _]
    show wpAny _ _ (pyNext (.ref x) >>= _) _ _ _
    have hx := I.here _ _ hst
    obtain ⟨sl, es, k, In, _⟩ := R.isI hx.more
    refine wpAny_bind (owit_next R.fr (R.X O) In i3 i4 ?_)
    refine wpAny_mono (wpAny_call (I.stop ob hst F.A.in1.in1 _ l acc OA CA hroom ?_ ?_ (.ref fN) [.ref x] [] rfl rfl rfl s m news R.at)) (fun v s' hr => ?_) fun _ _ e => e
    rotate_left; rotate_left
    · obtain ⟨_, _, _, hF, _⟩ := hr; exact hF.elim
    · intro e s' ob' hf hx'
      obtain ⟨ea, o, m', n', rfl, ho, hc, R'⟩ := Exc.land CA hx'
      unfold OwitStop
      refine wpAny_isInstance (T := "StopIteration") ⟨o, ho, hc⟩ sub_si ?_
      show (if true = true then _ else _)
      rw [if_pos rfl]
      exact wpAny_pure ⟨rfl, hQ ob' s' m' n' hf R'.un⟩
    · intro e s' ob' hf hx'
      obtain ⟨ea, o, m', n', rfl, ho, hc, R'⟩ := Exc.land CA hx'
      unfold OwitStop
      refine wpAny_isInstance (T := "ValueError") ⟨o, ho, hc⟩ sub_ve ?_
      show (if false = true then _ else _)
      rw [if_neg (by decide)]
      exact hbad _ _ ob' acc hf hx'.un
  | cons y ys ih =>
    intro acc ob s m news hst he R
    refine codeAny_builtin PySem.F.entry_extend_loop ?_
    rw [Around.under_plainId plain_loop _]
    show wpAny _ _ (pyNext (.ref x) >>= _) _ _ _
    have hx := I.here _ _ hst
    obtain ⟨sl, es, k, In, _⟩ := R.isI hx.more
    refine wpAny_bind (owit_next R.fr (R.X O) In i3 i4 ?_)
    refine wpAny_mono (wpAny_call (I.step y ys ob hst F.A.in1.in1 _ l acc OA CA hroom (.ref fN) [.ref x] [] rfl rfl rfl s m news R.at)) (fun v s' hr => ?_) fun _ _ e => e
    obtain ⟨_, m', n', ⟨hv, ob', hst', rfl⟩, R'⟩ := hr
    have R' := R'.un
    have hle : acc.length + (ys.length + 1) = xs.length := by have := congrArg List.length he; simpa using this
    refine wpAny_bind (goE (g_update (W := W) (F := F.at F.A.in1.in1) (P := fun _ σ' => σ' = ⟨lc, (l, .list (acc ++ [y])) :: ob'⟩) (f := (·.push v)) PutO.head (fun vs hvs => by simp [hvs, hv]) (by rw [sizeLine_eq]; omega) (by simp; rw [sizeLine_eq]; omega) rfl s' m' n' R'.at) (fun _ s₂ σ₂ m₂ n₂ e₂ R₂ => ?_))
    subst e₂
    exact wpAny_pure ⟨plainId_quiet plain_loop _, ih _ _ _ _ _ hst' (by simp [he]) R₂.un⟩

theorem f_list_iter (O : FmOk W F) (C : CallOk F) (hr : 3 ≤ F.room) {x d K fI fN : Addr} {st : List Value → List (Addr × AO) → Prop} {fin bad : List (Addr × AO) → Prop} (I : Iter W F lc x d K fI fN st fin bad) {xs : List Value} {P : Value → AS → Prop}
    (hst : st xs ob) (hz : xs.length ≤ 1000000) (hP : ∀ l ob', fin ob' → P (.ref l) ⟨lc, (l, .list xs) :: ob'⟩) (hbad : ∀ e s' ob' l acc, bad ob' → Exc F (.type "ValueError") ⟨lc, (l, .list acc) :: ob'⟩ e s' → E e s') :
    CallF W F E ⟨lc, ob⟩ (.type "list") [.ref x] [] P := fun rf rvs rkw q1 q2 q3 s m news R => by
  obtain rfl := nv_type q1
  obtain ⟨rx, rfl, qx⟩ := map1 q2
  obtain rfl := nv_ref qx
  obtain rfl := nk0 q3
  have hit := I.ok
  simp only [iterA, Bool.and_eq_true, beq_iff_eq] at hit
  obtain ⟨⟨⟨⟨⟨i1, i2⟩, i3⟩, i4⟩, i5⟩, i6⟩ := hit
  have OA : FmOk W (F.at F.A.in1.in1) := O.at (by omega) (Nat.le_succ _) (by show F.A.units + 1 + 1 ≤ _; omega) rfl
  have CA : CallOk (F.at F.A.in1.in1) := C.at rfl
  have hroom : (F.at F.A.in1.in1).room + 1 = F.room := by show F.room - 1 + 1 = _; omega
  refine callType_codes (Q₁ := fun obj s₁ => obj = .ref s.heap.objs.size ∧ s₁ = { s with heap := s.heap.push { cls := .type "list", data := .seq #[] } }) PySem.F.called_list (PySem.F.typeCall_list_1 _) PySem.F.entry_list_init
    (code_list_new _ ⟨rfl, rfl⟩) fun obj s₁ h₁ => ?_
  obtain ⟨rfl, rfl⟩ := h₁
  generalize hl : s.heap.objs.size = l
  have R₁ : Rep F ⟨lc, (l, .list []) :: ob⟩ { s with heap := s.heap.push { cls := .type "list", data := .seq #[] } } m ((l, { cls := .type "list", data := .seq #[] }) :: news) := by
    subst hl
    exact R.add (add := [_]) (t := s.toks) (R.fr.push _) (R.nw.push R.fr _) (by simp [AO.addrs]) (fun b hb o => fresh_size R (by simp only [AO.addrs, List.mem_singleton] at hb; exact hb ▸ Nat.le_refl _) o) ⟨#[], 0, List.mem_cons_self .., rfl⟩
  refine ⟨⟨_, (R₁.nw _ (List.mem_cons_self ..)).1, rfl⟩, PySem.F.args_list_init_2 _ _, ?_⟩
  show wpAny _ F.A.in1.in1 (do let old ← List.listItems (.ref l); List.listUpdate (.ref l) (fun _ => #[]); letGo old.toList.reverse; List.listExtendWith (.ref l) (.ref x) .none) _ _ _
  refine wpAny_bind (goE (g_items (W := W) (F := F.at F.A.in1.in1) (P := fun vs σ' => vs.toList.map nv = [] ∧ σ' = ⟨lc, (l, .list []) :: ob⟩) (List.mem_cons_self ..) (fun vs hv => ⟨hv, rfl⟩) _ m _ R₁.at) (fun vs s₂ σ₂ m₂ n₂ qq R₂ => ?_))
  obtain ⟨hv, e₂⟩ := qq
  subst e₂
  refine wpAny_bind (goE (g_update (W := W) (F := F.at F.A.in1.in1) (P := fun _ σ' => σ' = ⟨lc, (l, .list []) :: ob⟩) (f := fun _ => #[]) (xs := []) (ys := []) PutO.head (fun vs hvs => rfl) (Nat.zero_le _) (Nat.zero_le _) rfl s₂ m₂ n₂ R₂) (fun _ s₃ σ₃ m₃ n₃ e₃ R₃ => ?_))
  subst e₃
  refine wpAny_bind (wpAny_letGo ?_)
  have hx := I.here _ _ hst
  obtain ⟨sl, es, k, In, _⟩ := R₃.isI hx.more
  have hxm : x ∈ addrsOf ob := by
    rcases hx with ⟨fs, h⟩ | ⟨sl, h, _⟩
    · exact mem_addrsOf h (by simp [AO.addrs])
    · exact mem_addrsOf h (by simp [AO.addrs])
  have hne : (l == x) = false := by
    have := R₃.nd
    simp only [addrsOf, List.flatMap_cons, List.nodup_append] at this
    rw [beq_eq_false_iff_ne]
    intro e
    exact this.2.2 l (by simp [AO.addrs]) x hxm e
  unfold List.listExtendWith
  refine wpAny_bind (In.type.here ?_)
  rw [if_neg (show ¬ ((List.listSameRef (.ref l) (.ref x) || Value.ref K == .type "list" || Value.ref K == .type "tuple") = true) from by
    show ¬ (((l == x) || _ || _) = true)
    rw [hne]
    exact Bool.false_ne_true)]
  refine wpAny_bind (owit_iter R₃.fr (R₃.X OA) In i1 i2 ?_)
  refine wpAny_mono (wpAny_call (I.iter _ ob hst F.A.in1.in1 _ l [] OA CA hroom (.ref fI) [.ref x] [] rfl rfl rfl s₃ m₃ n₃ R₃)) (fun v s₄ hv₄ => ?_) fun _ _ e => e
  obtain ⟨σ₄, m₄, n₄, ⟨hv₄, e₄⟩, R₄⟩ := hv₄
  subst e₄
  obtain rfl := nv_ref hv₄
  obtain ⟨sl₄, es₄, k₄, In₄, _⟩ := R₄.isI hx.more
  refine owit_it R₄.fr (R₄.X OA) In₄ i3 ?_
  refine wpAny_bind (wpAny_holding ?_)
  have X₄ := (R₄.X OA).keeps R₄.fr.keep
  unfold List.listLengthHint
  refine wpAny_bind (wpAny_bind (In₄.type.here ((looks_findIn X₄ i5).here ?_)))
  dsimp only
  rw [if_neg (by exact Bool.false_ne_true)]
  rw [if_neg (show ¬ ((none : Option Value).isSome = true) from Bool.false_ne_true)]
  refine wpAny_bind (wpAny_bind (In₄.type.here ((looks_findIn X₄ i6).here ?_)))
  dsimp only
  refine wpAny_pure ?_
  rw [if_pos (show ((true || _) = true) from Bool.true_or _)]
  refine wpAny_bind (wpAny_rule ?_)
  unfold List.listTouch
  refine wpAny_bind (wpAny_bind (goE (g_update (W := W) (F := F.at F.A.in1.in1) (P := fun _ σ' => σ' = ⟨lc, (l, .list [.none]) :: ob⟩) (f := (·.push .none)) (xs := []) (ys := [.none]) PutO.head (fun vs hvs => by simp [hvs, nv]) (Nat.zero_le _) (by rw [sizeLine_eq]; decide) rfl s₄ m₄ n₄ R₄) (fun _ s₅ σ₅ m₅ n₅ e₅ R₅ => ?_)))
  subst e₅
  refine goE (g_update (W := W) (F := F.at F.A.in1.in1) (P := fun _ σ' => σ' = ⟨lc, (l, .list []) :: ob⟩) (f := (·.pop)) (xs := [.none]) (ys := []) PutO.head (fun vs hvs => ?_) (by rw [sizeLine_eq]; decide) (Nat.zero_le _) rfl s₅ m₅ n₅ R₅) (fun _ s₆ σ₆ m₆ n₆ e₆ R₆ => ?_)
  · have : vs.toList.length = 1 := by have := congrArg List.length hvs; simpa using this
    simp at this
    simp [Array.toList_pop, List.dropLast_eq_take, this]
  subst e₆
  refine wpAny_pure ⟨plainId_quiet plain_loop _, ?_⟩
  exact list_loop O C hr I (Q := fun r s₂ => ∃ σ' m' news', P (nv r) σ' ∧ Rep F σ' s₂ m' news') hz (fun ob' s m news hf R => ⟨_, m, news, hP l ob' hf, R⟩) (fun e s' ob' acc h1 h2 => hbad e s' ob' l acc h1 h2) xs [] ob s₆ m₆ n₆ hst rfl R₆.un
end

end
/-! text M11 -/
section
open PySem.Builtin

section
variable {W : Wd} {F : Fm} {E : Value → Shared → Prop} {σ : AS} {lc : Lc} {ob ob' : List (Addr × AO)} {s : Shared} {m : Mp} {news : List (Addr × Obj)}
theorem x_eq_nn {P : Bool → AS → Prop} (h : P true σ) : Cmp W F E σ .Eq .none .none P := fun va vb ha hb s m news R => by
  obtain rfl := nv_none ha; obtain rfl := nv_none hb
  exact PySem.EqNone.eq_none_none ⟨σ, m, news, ⟨_, rfl, h⟩, R⟩
theorem x_eq_sn {x : Str} {t : Tok} {P : Bool → AS → Prop} (h : P false σ) : Cmp W F E σ .Eq (.str x t) .none P := fun va vb ha hb s m news R => by
  obtain ⟨_, rfl⟩ := nv_str ha; obtain rfl := nv_none hb
  exact PySem.EqNone.eq_str_none ⟨σ, m, news, ⟨_, rfl, h⟩, R⟩

/-! objects are forgotten -/
theorem Led.keep {mm : Str → Option Value} {big keep junk : List (Addr × AO)} (R : Led F ⟨lc, big⟩ mm news) (hp : big.Perm (keep ++ junk)) : Led F ⟨lc, keep⟩ mm news := by
  have e1 : (addrsOf big ++ F.rest.map (·.1)).Perm (addrsOf junk ++ (addrsOf keep ++ F.rest.map (·.1))) := by
    have := perm_addrs hp
    rw [addrs_append] at this
    refine (this.append_right _).trans ?_
    rw [← List.append_assoc]
    exact (List.perm_append_comm).append_right _
  have A0 := ((e1.append_left (F.env.cells.map (·.2))).nodup_iff).mp R.apart
  refine ⟨R.loc, R.knd, R.nod, R.cel, fun p hp' => R.obj p (hp.mem_iff.mpr (List.mem_append_left _ hp')), R.rst, ?_⟩
  refine List.Nodup.sublist ?_ A0
  exact (List.Sublist.refl _).append (List.sublist_append_right _ _)
theorem Rep.keep {big keep junk : List (Addr × AO)} (R : Rep F ⟨lc, big⟩ s m news) (hp : big.Perm (keep ++ junk)) : Rep F ⟨lc, keep⟩ s m news := ⟨R.toLed.keep hp, R.fr, R.nw, R.bl, R.tn, R.bare, R.os⟩
noncomputable def Less (P : AS → Prop) (σ : AS) : Prop := ∃ keep junk, σ.obj.Perm (keep ++ junk) ∧ P ⟨σ.loc, keep⟩
theorem Less.of {keep junk big : List (Addr × AO)} {P : AS → Prop} (hp : big.Perm (keep ++ junk)) (h : P ⟨lc, keep⟩) : Less P ⟨lc, big⟩ := ⟨keep, junk, hp, h⟩
theorem Go.less {α : Type} {t : Sem α} {P : α → AS → Prop} (h : Go W F E σ t fun a => Less (P a)) : Go W F E σ t P := fun s m news R =>
  wpAny_mono (h s m news R) (fun a s' ⟨σ', m', n', ⟨k, j, hp, hP⟩, R'⟩ => ⟨_, m', n', hP, Rep.keep (lc := σ'.loc) (big := σ'.obj) R' hp⟩) fun _ _ e => e
theorem CodeF.less {f : Value} {vs : List Value} {kw : Fl} {P : Value → AS → Prop} (h : CodeF W F E σ f vs kw fun a => Less (P a)) : CodeF W F E σ f vs kw P := fun rf rvs rkw q1 q2 q3 s m news R =>
  codeAny_mono (h rf rvs rkw q1 q2 q3 s m news R) fun r s' hr => by
    cases r with
    | error e => exact hr
    | ok fl =>
      cases fl with
      | ret v =>
        obtain ⟨σ', m', n', ⟨k, j, hp, hP⟩, R'⟩ := hr
        exact ⟨_, m', n', hP, Rep.keep (lc := σ'.loc) (big := σ'.obj) R' hp⟩
      | _ => exact hr.elim
theorem CallF.less {f : Value} {vs : List Value} {kw : Fl} {P : Value → AS → Prop} (h : CallF W F E σ f vs kw fun a => Less (P a)) : CallF W F E σ f vs kw P := fun rf rvs rkw q1 q2 q3 => Go.less (h rf rvs rkw q1 q2 q3)
theorem CallF.perm {f : Value} {vs : List Value} {kw : Fl} {P : Value → AS → Prop} (hp : ob.Perm ob') (h : CallF W F E ⟨lc, ob'⟩ f vs kw P) : CallF W F E ⟨lc, ob⟩ f vs kw P := fun rf rvs rkw q1 q2 q3 s m news R =>
  h rf rvs rkw q1 q2 q3 s m news (Rep.keep (junk := []) R (by rw [List.append_nil]; exact hp))

inductive PutN (n : Str) (v : Value) : Fl → Fl → Prop
  | nil : PutN n v [] [(n, v)]
  | cons {p r r'} : PutN n v r r' → PutN n v (p :: r) (p :: r')
theorem PutN.eq {n : Str} {v : Value} {a b : Fl} (h : PutN n v a b) : a ++ [(n, v)] = b := by
  induction h with
  | nil => rfl
  | cons _ ih => simp [ih]
theorem a_new (O : FmOk W F) {a C d : Addr} {fs fs' : Fl} {l' : List (Addr × AO)} {n : Str} {v : Value} {P : AS → Prop} {names : List Str} {ms : List (Str × Addr)} (ha : (a, .inst C d fs) ∈ ob) (T : ClsTab W.K C names ms) (hp : n ∈ names) (hv : absF n fs = true)
    (e : PutN n v fs fs') (U : PutO a (.inst C d fs) (.inst C d fs') ob l') (h : P ⟨lc, l'⟩) (hz : Nat.ble fs'.length 1000 = true) : SetA W F E ⟨lc, ob⟩ (.ref a) n v P := fun vo rv ho hv' s m news R => by
  obtain rfl := nv_ref ho
  obtain ⟨sl, es, k, I, hd, hi, hf, nd⟩ := R.inst (σ := ⟨lc, ob⟩) U.mem
  have hp := T.s hp
  simp only [plainS, Bool.and_eq_true, beq_iff_eq] at hp
  obtain ⟨⟨⟨p1, p2⟩, p3⟩, p4⟩ := hp
  obtain rfl := e.eq
  have V := absF_of hv
  have hne : a ≠ d := fun e => by
    have := (R.nw _ hd).1.symm.trans (e ▸ (R.nw _ hi).1)
    cases this
  have hf' : Flds (putL n (PyData.keyHash W.w.params n) (.str n (s.toks + 1)) rv es) (fs ++ [(n, v)]) := flds_new hv' hf V
  have nd' : ((fs ++ [(n, v)]).map (·.1)).Nodup := by
    rw [List.map_append]
    exact List.nodup_append.mpr ⟨nd, by simp, fun x hx y hy e => by
      simp only [List.map_cons, List.map_nil, List.mem_singleton] at hy
      exact V ((e.trans hy) ▸ hx)⟩
  have N1 : News m.g F.env.locals s.heap ((d, dictOf es k) :: drop d news) := fun p hp => by
    rcases List.mem_cons.mp hp with rfl | hp
    · exact R.nw _ hd
    · exact R.nw _ (drop_mem hp).1
  refine set_dict R.fr (R.X O) N1 I rfl p1 p2 p3 p4 (by rw [flds_none hf V]; rfl) rfl (.head fun p hp => (drop_mem hp).2) (by rw [hf'.length]; exact Nat.le_of_ble_eq_true hz) fun h' F' N' => ?_
  refine ⟨_, m, _, h, R.putO U rfl (by simp [AO.addrs]) F' N' ?_⟩
  exact ⟨sl, _, _, List.mem_cons_of_mem _ (mem_drop hi hne), List.mem_cons_self .., hf', nd'⟩
end
end
local macro_rules | `(tactic| tb_rel) => do
  let t ← tq "PutN.nil|PutN.cons R"
  `(tactic| with_reducible $t:tactic)
section
open PySem.Builtin
end
local macro_rules | `(tactic| kcf_all) => do
  let t ← tq "g_inst A M A W M _ W|g_part A M A M M _ W|a_inst A R A W R _ K|a_part A R A M R _ K|a_new A M A M K R R _ K"
  `(tactic| with_reducible $t:tactic)
section
open PySem.Builtin

end
/-! text D2 -/
section
open PySem.Builtin

section
variable {prog : Program} {w : World} {A : Around} {E : Value → Shared → Prop} {s : Shared} {R : Result → Shared → Prop} {h : Heap} {g : Array GenState} {d : Drawn} {t : Nat} {os : OsState} {C : Addr}
theorem wif_f {M : Model} {α : Type} {a b : Sem α} {Q : α → Shared → Prop} {c : Prop} [Decidable c] (n : ¬ c) (k : wpAny M A b Q E s) : wpAny M A (ite c a b) Q E s := by rw [if_neg n]; exact k
theorem wbif_f {M : Model} {α β : Type} {a b : Sem α} {f : α → Sem β} {Q : β → Shared → Prop} {c : Prop} [Decidable c] (n : ¬ c) (k : wpAny M A (b >>= f) Q E s) : wpAny M A (ite c a b >>= f) Q E s := by rw [if_neg n]; exact k
theorem new_own {oc : Value} {od : Option Addr} {cd : ClassData} {sl : Array (Option Value)} (hC : h.get? C = some ⟨oc, od, .cls cd, sl⟩) (e1 : cd.abstract = false) (e2 : cd.hasDel = false)
    (base : Looks (model prog w) h (Bind.staticBase (.ref C)) (.type "object")) (made : Looks (model prog w) h (Bind.madeBy (.type "object")) (some "object.__new__")) (typ : Looks (model prog w) h (isInstance (.ref C) (.type "type")) true) (self : Looks (model prog w) h (isSubtype (.ref C) (.ref C)) true) (top : Looks (model prog w) h (isSubtype (.ref C) (.type "object")) true)
    (hq : R (.ok (.ret (.ref (h.objs.size + 1)))) ⟨(h.push emptyDict).push (instObj C h.objs.size), g, d, t, os⟩) :
    codeAny (model prog w) A (.call (.builtin "object.__new__") ⟨[.ref C], []⟩) R ⟨h, g, d, t, os⟩ := by
  have F := PySem.F.objNew
  refine codeAny_call_builtin_code (Code.quiet_builtin _ F.quiet) ?_
  simp only [checkBuiltinCall, F.kind, F.split, F.row]
  have here : Looks (model prog w) h (Bind.madeHere "object.__new__" (.ref C)) () := base.andThen (made.andThen (Looks.of_pure (by simp only [Option.map_some, bne_self_eq_false, Bool.false_eq_true, if_false])))
  have args : Bind.checkArgs "object.__new__" ⟨.hand, "object.__new__", "__new__", .cls, []⟩ ⟨[.ref C], []⟩ = pure () := by kernel_rfl
  rw [args]
  repeat (first | refine wif_f (by decide) ?_ | refine wbif_f (by decide) ?_ | lk)
  refine codeAny_builtin F.entry ?_
  unfold Builtin.«object.__new__»
  have hC' := Heap.get?_push_of_some (instObj C (h.push emptyDict).objs.size.pred) (Heap.get?_push_of_some emptyDict hC)
  have fin : ∀ A', wpAny (model prog w) A' (do
      let d ← if typeHasDict (.ref C) then some <$> alloc { cls := .type "dict", data := .dict #[] } else pure none
      ret (← newObj (.ref C) .plain d)) (fun fin s' => match fin with | .done f => R (.ok f) s' | .again c' => c'.quiet = true ∧ codeAny (model prog w) A c' R s') (fun e s' => R (.error e) s') ⟨h, g, d, t, os⟩ := by
    intro A'
    show wpAny _ _ ((alloc emptyDict >>= fun x => pure (some x)) >>= _) _ _ _
    refine wpAny_bind (wpAny_bind (wpAny_alloc (wpAny_pure (wpAny_bind ?_))))
    show wpAny _ _ (newObjAsIs _ _ _) _ _ _
    unfold newObjAsIs classHasDel
    refine wpAny_bind (wpAny_alloc (wpAny_bind (wpAny_bind (wpAny_load (Heap.get?_push_of_some _ (Heap.get?_push_of_some _ hC)) (wpAny_pure ?_)))))
    rw [e2]
    refine wpAny_pure (wpAny_pure ?_)
    show R _ _
    rw [Heap.size_push]
    exact hq
  repeat (first | refine wif_f (by rw [e1]; decide) ?_ | refine wbif_f (by rw [e1]; decide) ?_ | exact fin _ | lk)
end

structure OwnNew (K : Frag) (C fN : Addr) : Prop where
  plain : (clsIn K C).any (fun cd => !cd.abstract && !cd.hasDel && !cd.mro.isEmpty) = true
  base : ∀ S, peek K S (Bind.staticBase (.ref C)) = some (.type "object")
  none_ : ∀ S, peek K S (Bind.madeBy (.ref C)) = some none
  typ : instIn K (.ref C) (.type "type") = some true
  self : mroIn K C (.ref C) = some true
  top : mroIn K C (.type "object") = some true
  call : specialIn K (.ref C) "__call__" = some (some (.builtin "type.__call__"))
  meta_ : typeIn K (.ref C) = some (.type "type")
  reads : readsIn K C (.type "type") = true
  new : ∃ p rest, findCls K (.ref C) (.type "type") "__new__" = some (.get (.builtin "staticmethod.__get__") (.ref p) .none (.ref C)) ∧ recIn K p "staticmethod" = some (.ref fN :: rest)
theorem made_object {M : Model} {h : Heap} : Looks M h (Bind.madeBy (.type "object")) (some "object.__new__") := Looks.of_peek (K := []) (fun _ _ e => by cases e) (by kernel_rfl)

section
variable {W : Wd} {F : Fm} {E : Value → Shared → Prop} {lc : Lc} {ob ob' : List (Addr × AO)}
theorem Rep.newInst {s : Shared} {m : Mp} {news : List (Addr × Obj)} (R : Rep F ⟨lc, ob⟩ s m news) (C : Addr) : ∃ news', Rep F ⟨lc, (s.heap.objs.size + 1, .inst C s.heap.objs.size []) :: ob⟩ { s with heap := (s.heap.push emptyDict).push (instObj C s.heap.objs.size) } m news' := by
  have N' := (R.nw.push R.fr emptyDict).push (R.fr.push _) (instObj C s.heap.objs.size)
  rw [Heap.size_push] at N'
  refine ⟨[(s.heap.objs.size + 1, instObj C s.heap.objs.size), (s.heap.objs.size, emptyDict)] ++ news, R.add (t := s.toks) ((R.fr.push _).push _) N' ?_ (fun b hb o => fresh_size R (by
    simp only [AO.addrs, List.mem_cons, List.not_mem_nil, or_false] at hb
    rcases hb with rfl | rfl
    · exact Nat.le_succ _
    · exact Nat.le_refl _) o) ⟨#[], [], 0, List.mem_cons_self .., List.mem_cons_of_mem _ (List.mem_cons_self ..), .nil, by simp⟩⟩
  simp only [AO.addrs, List.nodup_cons, List.mem_singleton, List.not_mem_nil, not_false_eq_true, List.nodup_nil, and_true]
  exact Nat.succ_ne_self _
theorem f_objnew (O : FmOk W F) {C fN : Addr} {P : Value → AS → Prop} (N : OwnNew W.K C fN) (h : ∀ x dx, P (.ref x) ⟨lc, (x, .inst C dx []) :: ob⟩) : CallF W F E ⟨lc, ob⟩ (.builtin "object.__new__") [.ref C] [] P := fun rf rvs rkw q1 q2 q3 s m news R => by
  obtain rfl := nv_builtin q1
  obtain ⟨v, rfl, q⟩ := map1 q2
  obtain rfl := nv_ref q
  obtain rfl := nk0 q3
  have X := (R.X O).keeps R.fr.keep
  obtain ⟨cd, hc, ho⟩ := any_some N.plain
  simp only [Bool.and_eq_true, Bool.not_eq_true'] at ho
  have hc' := hc
  unfold clsIn at hc'
  split at hc'
  · rename_i oc od cd' sl hC
    cases hc'
    obtain ⟨news', R'⟩ := R.newInst C
    refine wpAny_call (new_own (h := s.heap) (X _ _ hC) ho.1.1 ho.1.2 (Looks.of_peek X (N.base _)) made_object (looks_instIn X N.typ) (looks_mroIn X N.self) (looks_mroIn X N.top) ?_)
    exact ⟨_, m, news', h _ _, R'⟩
  · cases hc'

theorem ga_i {M : Model} {A : Around} {E : Value → Shared → Prop} {s : Shared} {o : Value} {n : Str} {x : Bool} {Q : Value → Shared → Prop} (h : wpAny M A (getAttr o n x) Q E s) : wpAny M A (getAttr o n x) Q E s := h
theorem c_own (O : FmOk W F) (C : CallOk F) (hr : 2 ≤ F.room) {K fN fI : Addr} {vs : List Value} {kw : Fl} {P : Value → AS → Prop} (N : OwnNew W.K K fN) (hi : findIn W.K (.ref K) "__init__" = some (some (.ref fI))) (hf : isFn W.K (.ref fI) = true)
    (hn : ∀ A', FmOk W (F.at A') → CallOk (F.at A') → (F.at A').room + 1 = F.room → ∀ E', CallF W (F.at A') E' ⟨lc, ob⟩ (.ref fN) (.ref K :: vs) kw fun v σ' => ∃ x dx, v = .ref x ∧ σ' = ⟨lc, (x, .inst K dx []) :: ob⟩)
    (h : ∀ x dx A', FmOk W (F.at A') → CallOk (F.at A') → (F.at A').room + 1 = F.room → CallF W (F.at A') E ⟨lc, (x, .inst K dx []) :: ob⟩ (.ref fI) (.ref x :: vs) kw fun v σ' => v = .none ∧ P (.ref x) σ')
    : CallF W F E ⟨lc, ob⟩ (.ref K) vs kw P := fun rf rvs rkw q1 q2 q3 s m news R => by
  obtain rfl := nv_ref q1
  have X := (R.X O).keeps R.fr.keep
  obtain ⟨cd, hc, ho⟩ := any_some N.plain
  simp only [Bool.and_eq_true, Bool.not_eq_true'] at ho
  have hc' := hc
  unfold clsIn at hc'
  split at hc'
  · rename_i oc od cd' sl hC
    cases hc'
    let A' := F.A.under (Code.builtin "type.__call__" ⟨.ref K :: rvs, rkw⟩)
    have OA : FmOk W (F.at A') := O.at (by omega) (Nat.le_refl _) (by
      show F.A.units + _ ≤ _
      exact Nat.add_le_add_left (show (Code.builtin "type.__call__" ⟨.ref K :: rvs, rkw⟩).cUnits ≤ 10 from Nat.le_of_ble_eq_true rfl) _) rfl
    have CA : CallOk (F.at A') := C.at rfl
    have hroom : (F.at A').room + 1 = F.room := by show F.room - 1 + 1 = _; omega
    have call : Looks (model W.prog W.w) s.heap (specialOf (.ref K) "__call__") (some (.builtin "type.__call__")) := looks_specialIn X N.call
    have typ : Looks (model W.prog W.w) s.heap (isInstance (.ref K) (.type "type")) true := looks_instIn X N.typ
    refine wpAny_call (codeAny_of_tree ?_)
    show wpAny _ _ (callAny (.ref K) _) _ _ _
    refine nd_load (X _ _ hC) ?_
    show wpAny _ _ (callAny.viaDunder (.ref K) _) _ _ _
    unfold callAny.viaDunder
    refine wpAny_bind (call.at ?_)
    dsimp only
    rw [tc_bind]
    refine wpAny_bind (wpAny_pure (wpAny_bind (wpAny_pure ?_)))
    refine wpAny_pure (a := Fin.again (.call (.builtin "type.__call__") ⟨.ref K :: rvs, rkw⟩)) (And.intro rfl ?_)
    refine codeAny_call_builtin_at (Code.quiet_builtin _ (by decide +kernel)) entry_typeCall (check_slot tc_kind tc_split typ (tc_args _ _ _) ?_)
    unfold Builtin.«type.__call__»
    have hm : Looks (model W.prog W.w) s.heap (mroOf (.ref K)) cd.mro := (looks_clsIn X hc).andThen .now
    have mb : Looks (model W.prog W.w) s.heap (Bind.madeBy (.ref K)) none := Looks.of_peek X (N.none_ _)
    show wpAny _ A' _ _ _ _
    have e4 := ho.2
    repeat ((with_reducible fail_if_success refine ga_i ?_); (first | refine wif_f (by rw [e4]; decide) ?_ | refine wbif_f (by rw [e4]; decide) ?_ | lk))
    obtain ⟨p, rest, hfc, hrec⟩ := N.new
    refine cls_sm R.fr (R.X O) N.meta_ N.reads hfc hrec rfl ?_
    refine wpAny_bind (wpAny_holding (wpAny_mono (hn A' OA CA hroom _ (.ref fN) (.ref K :: rvs) rkw rfl (by simp [q2, nv]) q3 _ m news (R.tok _).at) (fun obj s₁ ⟨σ₁, m₁, n₁, ⟨x, dx, hv, e₁⟩, R₁⟩ => ?_) fun _ _ e => e))
    subst e₁
    obtain rfl := nv_ref hv
    obtain ⟨sl₁, es₁, k₁, I₁, _, _, _, _⟩ := R₁.inst (List.mem_cons_self ..)
    have X₁ := (R₁.X OA).keeps R₁.fr.keep
    have self := looks_mroIn (M := model W.prog W.w) X₁ N.self
    refine wpAny_bind ((I₁.type.andThen self : Looks (model W.prog W.w) s₁.heap (isInstance (.ref x) (.ref K)) true).here ?_)
    simp only [Bool.not_true, Bool.false_eq_true, if_false]
    refine wpAny_bind (wpAny_holding ?_)
    refine wpAny_bind (wpAny_bind (I₁.type.here ((looks_findIn X₁ hi).here (wpAny_holding (wpAny_bind ((bind_fn X₁ _ (beq_iff_eq.mp hf)).here (wpAny_bind (wpAny_mono (h x dx A' OA CA hroom (.ref fI) (.ref x :: rvs) rkw rfl (by simp [q2, nv]) q3 _ _ _ R₁) (fun v s₂ ⟨σ₂, m₂, n₂, ⟨hv₂, hP⟩, R₂⟩ => wpAny_pure ?_) fun _ _ z => z))))))))
    obtain rfl := nv_none hv₂
    exact wpAny_pure ⟨σ₂, m₂, n₂, hP, R₂.un⟩
  · cases hc'
end

end
/-! text M12 -/
section
open PySem.Builtin

section
variable {W : Wd} {F : Fm} {E : Value → Shared → Prop} {σ : AS} {lc : Lc} {ob ob' : List (Addr × AO)} {s : Shared} {m : Mp} {news : List (Addr × Obj)}

theorem Rep.setRaw (R : Rep F σ s m news) {a : Addr} {o o' : Obj} (U : PutO a (.raw o) (.raw o') σ.obj ob') {h' : Heap} (hg : h'.get? a = some o') (hs : Heap.SameBut a s.heap h') (t : Nat) :
    Rep F ⟨σ.loc, ob'⟩ { s with heap := h', toks := t } m ((a, o') :: drop a news) := by
  have hm : (a, o) ∈ news := R.obj _ U.mem
  have hq := R.nw _ hm
  have N1 : News m.g F.env.locals s.heap ((a, o) :: drop a news) := fun p hp => by
    rcases List.mem_cons.mp hp with rfl | hp
    · exact hq
    · exact R.nw _ (drop_mem hp).1
  exact R.putO U rfl (List.mem_cons_self ..) (R.fr.update R.nw hm hs) (N1.setHead (fun p hp => (drop_mem hp).2) hs hg) (List.mem_cons_self ..)
theorem Rep.rawAt (R : Rep F σ s m news) {a : Addr} {o : Obj} (h : (a, AO.raw o) ∈ σ.obj) : s.heap.get? a = some o := (R.nw _ (R.obj _ h)).1
theorem Rep.listAt (R : Rep F σ s m news) {a : Addr} {xs : List Value} (h : (a, AO.list xs) ∈ σ.obj) : ∃ vs n, s.heap.get? a = some ⟨.type "list", none, .seq vs n, #[]⟩ ∧ vs.toList.map nv = xs := by
  obtain ⟨vs, n, h1, h2⟩ := R.obj _ h
  exact ⟨vs, n, (R.nw _ h1).1, h2⟩
theorem Rep.raw (R : Rep F ⟨lc, ob⟩ s m news) (o : Obj) (ho : o.isFreed = false) (t : Nat) : Rep F ⟨lc, (s.heap.objs.size, .raw o) :: ob⟩ { s with heap := s.heap.push o, toks := t } m ((s.heap.objs.size, o) :: news) :=
  R.add (add := [_]) (R.fr.push _) (R.nw.push R.fr _ ho) (by simp [AO.addrs]) (fun b hb o => fresh_size R (by simp only [AO.addrs, List.mem_singleton] at hb; exact hb ▸ Nat.le_refl _) o) (List.mem_cons_self ..)

/-! an object of a class with __slots__ -/
noncomputable def slO (C d : Addr) (sl : Array (Option Value)) : Obj := ⟨.ref C, some d, .plain, sl⟩
theorem c_newR (O : FmOk W F) (C : CallOk F) (hr : 2 ≤ F.room) {K fI : Addr} {vs : List Value} {kw : Fl} {P : Value → AS → Prop} (hm : makesIn W.K K = true) (hi : findIn W.K (.ref K) "__init__" = some (some (.ref fI))) (hf : isFn W.K (.ref fI) = true)
    (h : ∀ x dx A', FmOk W (F.at A') → CallOk (F.at A') → (F.at A').room + 1 = F.room → CodeF W (F.at A') E ⟨lc, (x, .raw (slO K dx #[])) :: (dx, .raw (dictOf [] 0)) :: ob⟩ (.ref fI) (.ref x :: vs) kw fun v σ' => v = .none ∧ P (.ref x) σ') :
    CodeF W F E ⟨lc, ob⟩ (.ref K) vs kw P := fun rf rvs rkw h1 h2 h3 s m news R => by
  obtain rfl := nv_ref h1
  refine make_K R.fr R.nw ((R.X O).keeps R.fr.keep) hm hi (beq_iff_eq.mp hf) fun x dx h' F' N' l1 l2 => ?_
  have F₀ : Fr m.g F.env.locals h' m.m := F'
  have R' : Rep F ⟨lc, (x, .raw (slO K dx #[])) :: (dx, .raw (dictOf [] 0)) :: ob⟩ { s with heap := h', toks := s.toks } m ([(x, instObj K dx)] ++ ([(dx, emptyDict)] ++ news)) := by
    have fr : ∀ b ∈ AO.addrs dx (.raw (dictOf [] 0)), ∀ o, (b, o) ∉ news := fun b hb o ho => by
      simp only [AO.addrs, List.mem_singleton] at hb
      subst hb
      exact absurd (l1 _ ho) (Nat.lt_irrefl _)
    have R1 : Rep F ⟨lc, (dx, .raw (dictOf [] 0)) :: ob⟩ { s with heap := h', toks := s.toks } m ([(dx, emptyDict)] ++ news) :=
      R.add F' (fun p hp => N' p (List.mem_cons_of_mem _ hp)) (by simp [AO.addrs]) fr (List.mem_cons_self ..)
    refine R1.add (σ := ⟨lc, _⟩) F' N' (by simp [AO.addrs]) (fun b hb o ho => ?_) (List.mem_cons_self ..)
    simp only [AO.addrs, List.mem_singleton] at hb
    subst hb
    rcases List.mem_cons.mp ho with q | q
    · cases q; exact absurd l2 (Nat.lt_irrefl _)
    · exact absurd (Nat.lt_trans (l1 _ q) l2) (Nat.lt_irrefl _)
  refine codeAny_mono (h x dx (F.A.under (Code.builtin "type.__call__" ⟨.ref K :: rvs, rkw⟩)) (O.at (by omega) (Nat.le_refl _) ?_ rfl) (C.at rfl) (by show F.room - 1 + 1 = _; omega) (.ref fI) (.ref x :: rvs) rkw rfl (by simp [h2, nv]) h3 _ _ _ R'.at) fun r s' hr => ?_
  · show F.A.units + _ ≤ _
    exact Nat.add_le_add_left (show (Code.builtin "type.__call__" ⟨.ref K :: rvs, rkw⟩).cUnits ≤ 10 from Nat.le_of_ble_eq_true rfl) _
  · cases r with
    | error e => exact hr
    | ok fl =>
      cases fl with
      | ret v =>
        obtain ⟨σ', m', n', ⟨hv, hP⟩, R''⟩ := hr
        exact ⟨nv_none hv, σ', m', n', hP, R''.un⟩
      | _ => exact hr.elim
noncomputable def slotG (K : Frag) (C p : Addr) (n : Str) (i : Nat) : Bool := plainGet K C n && isClsIn K C && findIn K (.ref C) n == some (some (.ref p)) && specialIn K (.ref p) "__get__" == some (some (.builtin "member_descriptor.__get__")) && takesIn K (.ref p) == some true && slotIn K p C == some i
noncomputable def slotS (K : Frag) (C p : Addr) (n : Str) (i : Nat) : Bool := findIn K (.ref C) "__setattr__" == some (some (.builtin "object.__setattr__")) && plainOver K C && takerIn K C n == some (some (.ref p)) && typeIn K (.ref p) == some (.type "member_descriptor") && slotIn K p C == some i
theorem g_slot (O : FmOk W F) {a C d p : Addr} {sl : Array (Option Value)} {n : Str} {v : Value} {i : Nat} {P : Value → AS → Prop} (ha : (a, AO.raw (slO C d sl)) ∈ σ.obj) (hd : (d, AO.raw (dictOf [] 0)) ∈ σ.obj) (hg : slotG W.K C p n i = true) (hv : (sl[i]?).join = some v) (hh : handedIn v = true)
    (h : P (nv v) σ) : GetA W F E σ (.ref a) n P := fun vo ho s m news R => by
  obtain rfl := nv_ref ho
  simp only [slotG, Bool.and_eq_true, beq_iff_eq] at hg
  obtain ⟨⟨⟨⟨⟨g1, g2⟩, g3⟩, g4⟩, g5⟩, g6⟩ := hg
  exact get_slot R.fr (R.X O) (InstAt.of_news R.nw (R.obj _ ha) (R.obj _ hd)) g1 g2 g3 g4 g5 g6 hv hh ⟨σ, m, news, h, R.tok _⟩
theorem a_slot (O : FmOk W F) {a C d p : Addr} {sl sl' : Array (Option Value)} {n : Str} {v : Addr} {i : Nat} {P : AS → Prop} (U : PutO a (.raw (slO C d sl)) (.raw (slO C d sl')) ob ob') (hd : (d, AO.raw (dictOf [] 0)) ∈ ob) (hg : slotS W.K C p n i = true)
    (hi : i < 1000) (e : (sl ++ Array.replicate (i + 1 - sl.size) none).setIfInBounds i (some (.ref v)) = sl') (h : P ⟨lc, ob'⟩) : SetA W F E ⟨lc, ob⟩ (.ref a) n (.ref v) P := fun vo rv ho hv s m news R => by
  obtain rfl := nv_ref ho
  obtain rfl := nv_ref hv
  simp only [slotS, Bool.and_eq_true, beq_iff_eq] at hg
  obtain ⟨⟨⟨⟨g1, g2⟩, g3⟩, g4⟩, g5⟩ := hg
  have hm : (a, slO C d sl) ∈ news := R.obj _ U.mem
  have N1 : News m.g F.env.locals s.heap ((a, slO C d sl) :: drop a news) := fun p hp => by
    rcases List.mem_cons.mp hp with rfl | hp
    · exact R.nw _ hm
    · exact R.nw _ (drop_mem hp).1
  refine set_slot R.fr (R.X O) N1 (InstAt.of_news R.nw (R.obj _ U.mem) (R.obj _ hd)) g1 g2 g3 g4 g5 hi (ox' := slO C d sl') (by rw [← e]; rfl) rfl (.head fun p hp => (drop_mem hp).2) fun h' F' N' => ?_
  exact ⟨_, m, _, h, R.putO U rfl (List.mem_cons_self ..) F' N' (List.mem_cons_self ..)⟩

/-! a list's __contains__ -/
theorem g_lc {l : Addr} {xs : List Value} {P : Value → AS → Prop} (hl : (l, AO.list xs) ∈ ob) (h : ∀ b, P (.ref b) ⟨lc, (b, .raw (lcO l)) :: ob⟩) : GetA W F E ⟨lc, ob⟩ (.ref l) "__contains__" P := fun vo ho s m news R => by
  obtain rfl := nv_ref ho
  obtain ⟨vs, n, h1, h2⟩ := R.listAt hl
  obtain ⟨hp, g, d, t, os⟩ := s
  exact lc_attr h1 rfl ⟨_, _, rfl⟩ rfl ⟨_, m, _, h _, R.raw (lcO l) rfl (t + 1)⟩
theorem x_is_rt {a : Addr} {T : String} {P : Bool → AS → Prop} (h : P false σ) : Cmp W F E σ .Is (.ref a) (.type T) P := fun va vb ha hb s m news R => by
  obtain rfl := nv_ref ha; obtain rfl := nv_type hb
  exact wpAny_is_plain rfl ⟨σ, m, news, ⟨_, rfl, h⟩, R⟩
noncomputable def isStrV (x : Str) : Value → Bool
  | .str y _ => y == x
  | _ => false
theorem isStrV_nv (x : Str) (v : Value) : isStrV x (nv v) = isStrV x v := by cases v <;> rfl
noncomputable def AllStr (xs : List Value) : Prop := ∀ v ∈ xs, ∃ x, v = .str x 0
theorem AllStr.at {xs : List Value} (h : AllStr xs) {vs : Array Value} (e : vs.toList.map nv = xs) {y : Value} (hy : y ∈ vs) : ∃ x t, y = .str x t := by
  obtain ⟨x, hx⟩ := h (nv y) (e ▸ List.mem_map_of_mem (Array.mem_toList_iff.mpr hy))
  obtain ⟨t, rfl⟩ := nv_str hx
  exact ⟨x, t, rfl⟩
theorem any_isStr {x : Str} {xs : List Value} {vs : Array Value} (e : vs.toList.map nv = xs) : vs.any (isStrV x) = xs.any (isStrV x) := by
  rw [← Array.any_toList, ← e, List.any_map]
  congr 1
  funext v
  exact (isStrV_nv x v).symm
theorem f_lc {b l : Addr} {x : Str} {t : Tok} {xs : List Value} {P : Value → AS → Prop} (hb : (b, AO.raw (lcO l)) ∈ σ.obj) (hl : (l, AO.list xs) ∈ σ.obj) (ha : AllStr xs) (h : P (.bool (xs.any (isStrV x))) σ) : CallF W F E σ (.ref b) [.str x t] [] P := fun rf rvs rkw h1 h2 h3 s m news R => by
  obtain rfl := nv_ref h1
  obtain ⟨v, rfl, q⟩ := map1 h2
  obtain ⟨u, rfl⟩ := nv_str q
  obtain rfl := nk0 h3
  obtain ⟨vs, n, g1, g2⟩ := R.listAt hl
  refine lc_bound (e := isStrV x) (R.rawAt hb) g1 (fun y hy => ?_) ⟨σ, m, news, by rw [any_isStr g2]; exact h, R⟩
  obtain ⟨z, t', rfl⟩ := ha.at g2 hy
  exact eqGives_str z x t' u
theorem w_lc {pos : Pos} {b l : Addr} {e : Expr} {P : Value → AS → Prop} (hb : (b, AO.raw (lcO l)) ∈ σ.obj) {as : List Expr}
    (h : Args W F E σ pos (e :: as) fun vs σ₁ => (b, AO.raw (lcO l)) ∈ σ₁.obj ∧ CallF W F E σ₁ (.ref b) vs [] P)
    (he : starEach (e :: as) F.env = (false, eval e F.env) :: starEach as F.env) (hplain : (backTo pos (starEach as F.env)).any (·.1) = false) :
    CallW W F E σ pos (.ref b) [] (e :: as) [] P := fun rf rfirst hf hfi s m news R => by
  obtain rfl := nv_ref hf
  obtain rfl := map0 hfi
  have h' := h s m news R
  rw [he] at h' ⊢
  refine callWith_of (P := fun h => h.get? b = some (lcO l)) (by show ((false || (backTo pos (starEach as F.env)).any (·.1)) || false) = false; rw [hplain]; rfl) (fun h hh => ⟨.machine, .inr (.inl rfl), ?_⟩) (evalArgs_plain (wpAny_mono h' (fun vs s₁ ⟨σ₁, m₁, n₁, ⟨hb₁, h₁⟩, R₁⟩ => ?_) fun _ _ e => e))
  · show Looks _ h (keeperOf (.ref b)) _
    unfold keeperOf
    refine (Looks.ld hh).andThen ?_
    exact .now
  · exact ⟨R₁.rawAt hb₁, h₁ (.ref b) ([] ++ vs) [] rfl rfl rfl s₁ m₁ n₁ R₁⟩

/-! iter and next of a list -/
theorem f_iter {l : Addr} {xs : List Value} {P : Value → AS → Prop} (hl : (l, AO.list xs) ∈ ob) (h : ∀ i, P (.ref i) ⟨lc, (i, .raw (liO l 0)) :: ob⟩) : CallF W F E ⟨lc, ob⟩ (.builtin "iter") [.ref l] [] P := fun rf rvs rkw h1 h2 h3 s m news R => by
  obtain rfl := nv_builtin h1
  obtain ⟨v, rfl, q⟩ := map1 h2
  obtain rfl := nv_ref q
  obtain rfl := nk0 h3
  obtain ⟨vs, n, g1, g2⟩ := R.listAt hl
  exact li_iter (items := vs) ⟨_, g1, rfl, n, rfl⟩ ⟨_, m, _, h _, R.raw (liO l 0) rfl s.toks⟩
theorem f_next {l i : Addr} {k : Nat} {xs : List Value} {x : Value} {P : Value → AS → Prop} (U : PutO i (.raw (liO l k)) (.raw (liO l (k + 1))) ob ob') (hl : (l, AO.list xs) ∈ ob) (hx : xs[k]? = some x) (h : P x ⟨lc, ob'⟩) :
    CallF W F E ⟨lc, ob⟩ (.builtin "next") [.ref i] [] P := fun rf rvs rkw h1 h2 h3 s m news R => by
  obtain rfl := nv_builtin h1
  obtain ⟨v, rfl, q⟩ := map1 h2
  obtain rfl := nv_ref q
  obtain rfl := nk0 h3
  obtain ⟨vs, n, g1, g2⟩ := R.listAt hl
  have hx' : (vs.toList.map nv)[k]? = some x := g2 ▸ hx
  rw [List.getElem?_map, Option.map_eq_some_iff] at hx'
  obtain ⟨y, hy, hxy⟩ := hx'
  refine li_next (items := vs) (v := y) (R.rawAt U.mem) ⟨_, g1, rfl, n, rfl⟩ (by simpa using hy) fun h' e1 e2 => ?_
  exact ⟨_, m, _, (by show P (nv y) _; rw [hxy]; exact h), R.setRaw U e1 e2 s.toks⟩
theorem f_stop (O : FmOk W F) {l i : Addr} {k : Nat} {xs : List Value} {P : Value → AS → Prop} (U : PutO i (.raw (liO l k)) (.raw (liE k)) ob ob') (hl : (l, AO.list xs) ∈ ob) (hx : xs.length ≤ k)
    (h : ∀ e s', Fly F (.type "StopIteration") ⟨lc, ob'⟩ e s' → E e s') : CallF W F E ⟨lc, ob⟩ (.builtin "next") [.ref i] [] P := fun rf rvs rkw h1 h2 h3 s m news R => by
  obtain rfl := nv_builtin h1
  obtain ⟨v, rfl, q⟩ := map1 h2
  obtain rfl := nv_ref q
  obtain rfl := nk0 h3
  obtain ⟨vs, n, g1, g2⟩ := R.listAt hl
  refine li_stop (items := vs) O.hh (R.rawAt U.mem) ⟨_, g1, rfl, n, rfl⟩ (by
    have := congrArg List.length g2
    simp at this ⊢
    omega) fun h' h'' e e1 e2 e3 => ?_
  exact h _ _ (.new rfl (R.setRaw U e1 e2 s.toks) e3 R.bare R.os)
end

end
/-! text M13 -/
section
open PySem.Builtin

section
variable {W : Wd} {F : Fm} {E : Value → Shared → Prop} {σ : AS} {lc : Lc} {ob ob' : List (Addr × AO)} {s : Shared} {m : Mp} {news : List (Addr × Obj)}

theorem Rep.dropRaw {a : Addr} {o : Obj} (R : Rep F ⟨lc, (a, .raw o) :: ob⟩ s m news) {h' : Heap} (hs : Heap.ExtBut a s.heap h') (t : Nat) : Rep F ⟨lc, ob⟩ { s with heap := h', toks := t } m (drop a news) := by
  have hm : (a, o) ∈ news := R.obj _ (List.mem_cons_self ..)
  have hq := R.nw _ hm
  have hne : ∀ p ∈ drop a news, h'.get? p.1 = some p.2 := fun p hp => hs _ _ (drop_mem hp).2 (R.nw _ (drop_mem hp).1).1
  have has : a ∈ addrsOf ((a, AO.raw o) :: ob) := by simp [addrsOf, AO.addrs]
  have kc : ∀ p ∈ F.env.cells, ∀ o, (p.2, o) ∈ news → (p.2, o) ∈ drop a news := fun p hc o ho =>
    mem_drop ho fun q => (R.cellApart' hc).1 ((show p.2 = a from q) ▸ has)
  have nd : a ∉ addrsOf ob := by
    have := R.nd
    simp only [addrsOf, List.flatMap_cons, AO.addrs, List.singleton_append, List.nodup_cons] at this
    exact this.1
  refine ⟨⟨fun y v hy => (R.loc y v hy).to fun c o hc => kc (y, c) (mem_of_lookup hc) o, R.knd, R.nod, fun p hc => ?_, fun p hp => ?_, fun p hp => ?_, ?_⟩, ?_, fun p hp => ?_, R.bl, R.tn, R.bare, R.os⟩
  · obtain ⟨o, u, ho, hu⟩ := R.cel p hc
    exact ⟨o, u, kc p hc o ho, hu⟩
  · exact (R.obj p (List.mem_cons_of_mem _ hp)).to fun q hq hb => mem_drop hq fun z => nd (z ▸ mem_addrsOf hp hb)
  · exact mem_drop (R.rst p hp) fun z => R.restApart has (List.mem_map.mpr ⟨p, hp, z⟩)
  · have := R.apart
    refine List.Nodup.sublist ?_ this
    refine (List.Sublist.refl _).append ((List.Sublist.append ?_ (List.Sublist.refl _)))
    show (addrsOf ob).Sublist (addrsOf ((a, AO.raw o) :: ob))
    simp [addrsOf, AO.addrs]
  · obtain ⟨oL, a1, a2, hL, a3⟩ := R.fr.ns
    exact ⟨⟨oL, a1, a2, hs _ _ (fun e => hq.2.1 e.symm) hL, a3⟩, fun b x e => hs b x (fun q => by rw [q, hq.2.2] at e; cases e) (R.fr.keep b x e), R.fr.above⟩
  · exact ⟨hne p hp, (R.nw _ (drop_mem hp).1).2⟩

/-! what is walked -/
structure Src (W : Wd) (It : Nat → Obj → Prop) (xs : List Value) (Ok : List (Addr × AO) → Prop) : Prop where
  item : ∀ {F : Fm} {E I i lc ob o v}, FmOk W F → It i o → xs[i]? = some v → Ok ob → Go W F E ⟨lc, (I, .raw o) :: ob⟩ (pyNext (.ref I)) fun r σ' => (∃ rv, r = some rv ∧ nv rv = v) ∧ ∃ o', It (i + 1) o' ∧ σ' = ⟨lc, (I, .raw o') :: ob⟩
  done : ∀ {F : Fm} {E I lc ob o}, FmOk W F → It xs.length o → Ok ob → Go W F E ⟨lc, (I, .raw o) :: ob⟩ (pyNext (.ref I)) fun r σ' => r = none ∧ σ' = ⟨lc, ob⟩
  self : ∀ {F : Fm} {E I i lc ob o}, FmOk W F → It i o → Go W F E ⟨lc, (I, .raw o) :: ob⟩ (pyIter (.ref I)) fun r σ' => r = .ref I ∧ σ' = ⟨lc, (I, .raw o) :: ob⟩
noncomputable def Iters (W : Wd) (v : Value) (ob : List (Addr × AO)) (xs : List Value) (Ok : List (Addr × AO) → Prop) : Prop :=
  Ok ob ∧ ∀ {F : Fm} {E lc rv}, FmOk W F → nv rv = v → Go W F E ⟨lc, ob⟩ (pyIter rv) fun r σ' => ∃ I o It, r = .ref I ∧ σ' = ⟨lc, (I, .raw o) :: ob⟩ ∧ It 0 o ∧ Src W It xs Ok

theorem Iters.list {l : Addr} {xs : List Value} (hl : (l, AO.list xs) ∈ ob) : Iters W (.ref l) ob xs (fun o => (l, AO.list xs) ∈ o) := by
  have hI : ∀ {h : Heap} {I : Addr} {o : Obj} {i : Nat}, h.get? I = some o → (o.cls = .type "list_iterator" ∧ o.data = .fields #[.ref l, .int i 0]) → h.IsListIter I l i := fun e p => ⟨_, e, p.1, p.2⟩
  refine ⟨hl, fun {F E lc rv} O hv s m news R => ?_⟩
  obtain rfl := nv_ref hv
  obtain ⟨vs, n, g1, g2⟩ := R.listAt hl
  refine wpAny_pyIter_list (items := vs) ⟨_, g1, rfl, n, rfl⟩ ?_
  refine ⟨⟨lc, (s.heap.objs.size, .raw _) :: ob⟩, m, _, ⟨_, _, fun i o => o.cls = .type "list_iterator" ∧ o.data = .fields #[.ref l, .int i 0], rfl, rfl, ⟨rfl, rfl⟩, ?_⟩, R.raw _ rfl s.toks⟩
  refine ⟨fun {F E I i lc ob o v} O h1 h2 h3 s m news R => ?_, fun {F E I lc ob o} O h1 h3 s m news R => ?_, fun {F E I i lc ob o} O h1 s m news R => ?_⟩
  · obtain ⟨vs, n, g1, g2⟩ := R.listAt (List.mem_cons_of_mem _ h3)
    have hx' : (vs.toList.map nv)[i]? = some v := g2 ▸ h2
    rw [List.getElem?_map, Option.map_eq_some_iff] at hx'
    obtain ⟨y, hy, hxy⟩ := hx'
    refine wpAny_pyNext_list_item (hI (R.rawAt (List.mem_cons_self ..)) h1) (items := vs) ⟨_, g1, rfl, n, rfl⟩ (x := y) (by simpa using hy) fun h' ⟨o', e1, e2, e3⟩ hs => ?_
    exact ⟨_, m, _, ⟨⟨_, rfl, hxy⟩, o', ⟨e2, e3⟩, rfl⟩, R.setRaw PutO.head e1 hs s.toks⟩
  · obtain ⟨vs, n, g1, g2⟩ := R.listAt (List.mem_cons_of_mem _ h3)
    refine wpAny_pyNext_list_end O.hh (hI (R.rawAt (List.mem_cons_self ..)) h1) (items := vs) ⟨_, g1, rfl, n, rfl⟩ (by
      have := congrArg List.length g2
      simp at this ⊢
      omega) fun h' hs => ?_
    exact ⟨_, m, _, ⟨rfl, rfl⟩, R.dropRaw hs s.toks⟩
  · exact wpAny_pyIter_listiter (hI (R.rawAt (List.mem_cons_self ..)) h1) ⟨_, m, _, ⟨rfl, rfl⟩, R⟩

noncomputable def bytesV (b : Array UInt8) : List Value := b.toList.map fun c => .int (c.toNat : Int) 0
theorem Iters.bytes {b : Array UInt8} {t : Tok} : Iters W (.bytes b t) ob (bytesV b) (fun _ => True) := by
  refine ⟨trivial, fun {F E lc rv} O hv s m news R => ?_⟩
  obtain ⟨u, rfl⟩ := nv_bytes hv
  refine KBw.pyIter_bytes ?_
  refine ⟨⟨lc, (s.heap.objs.size, .raw _) :: ob⟩, m, _, ⟨_, _, fun i o => o.cls = .type "bytes_iterator" ∧ o.data = .fields #[.bytes b u, .int i 0], rfl, rfl, ⟨rfl, rfl⟩, ?_⟩, R.raw _ rfl s.toks⟩
  have hI : ∀ {h : Heap} {I : Addr} {o : Obj} {i : Nat}, h.get? I = some o → (o.cls = .type "bytes_iterator" ∧ o.data = .fields #[.bytes b u, .int i 0]) → KBw.IsBytesIter h I b u i := fun e p => ⟨_, e, p.1, p.2⟩
  refine ⟨fun {F E I i lc ob o v} O h1 h2 h3 s m news R => ?_, fun {F E I lc ob o} O h1 h3 s m news R => ?_, fun {F E I i lc ob o} O h1 s m news R => ?_⟩
  · unfold bytesV at h2
    rw [List.getElem?_map, Option.map_eq_some_iff] at h2
    obtain ⟨c, hc, rfl⟩ := h2
    refine KBw.next_item (hI (R.rawAt (List.mem_cons_self ..)) h1) (c := c) (by simpa using hc) fun h' ⟨o', e1, e2, e3⟩ hs => ?_
    exact ⟨_, m, _, ⟨⟨_, rfl, rfl⟩, o', ⟨e2, e3⟩, rfl⟩, R.setRaw PutO.head e1 hs _⟩
  · refine KBw.next_end O.hh (hI (R.rawAt (List.mem_cons_self ..)) h1) (by simp [bytesV]) fun h' hs => ?_
    exact ⟨_, m, _, ⟨rfl, rfl⟩, R.dropRaw hs s.toks⟩
  · exact KBw.pyIter_self (hI (R.rawAt (List.mem_cons_self ..)) h1) ⟨_, m, _, ⟨rfl, rfl⟩, R⟩

noncomputable def rangeV (a : Int) (n : Nat) (c : Int) : List Value := (List.range n).map fun (i : Nat) => .int (a + i * c) 0
noncomputable def rgO (o : Obj) (a b c : Int) : Prop := ∃ t u v, o = { cls := .type "range", dict := none, data := .fields #[.int a t, .int b u, .int c v], slots := #[] }
theorem Iters.range {r : Addr} {o : Obj} {a b c : Int} {n : Nat} (hr : (r, AO.raw o) ∈ ob) (ho : rgO o a b c) (hs : Builtin.Range.small a b c = true) (hn : Builtin.Range.rangeSize a b c = n) : Iters W (.ref r) ob (rangeV a n c) (fun _ => True) := by
  refine ⟨trivial, fun {F E lc rv} O hv s m news R => ?_⟩
  obtain rfl := nv_ref hv
  obtain ⟨t, u, v, rfl⟩ := ho
  refine wpAny_pyIter_range (R.rawAt hr) hs ?_
  rw [hn]
  refine ⟨⟨lc, (s.heap.objs.size, .raw _) :: ob⟩, m, _, ⟨_, _, fun i o => o = { cls := .type "range_iterator", dict := none, data := .fields #[rawInt (a + i * c), rawInt ((n : Int) - i), rawInt c], slots := #[] }, rfl, rfl, ?_, ?_⟩, R.raw _ rfl s.toks⟩
  · simp
  refine ⟨fun {F E I i lc ob o v} O h1 h2 h3 s m news R => ?_, fun {F E I lc ob o} O h1 h3 s m news R => ?_, fun {F E I i lc ob o} O h1 s m news R => ?_⟩
  · subst h1
    unfold rangeV at h2
    rw [List.getElem?_map, Option.map_eq_some_iff] at h2
    obtain ⟨k, hk, rfl⟩ := h2
    obtain ⟨hk1, hk2⟩ := List.getElem?_eq_some_iff.mp hk
    simp only [List.getElem_range] at hk2
    subst hk2
    simp only [List.length_range] at hk1
    refine wpAny_pyNext_range_item (R.rawAt (List.mem_cons_self ..)) (by omega) fun h' e1 hs => ?_
    refine ⟨_, m, _, ⟨⟨_, rfl, rfl⟩, _, rfl, ?_⟩, R.setRaw PutO.head e1 hs _⟩
    rw [show a + (i : Int) * c + c = a + ((i + 1 : Nat) : Int) * c from by rw [Int.natCast_add, Int.add_mul]; omega, show (n : Int) - i - 1 = n - ((i + 1 : Nat) : Int) from by omega]
  · subst h1
    simp only [rangeV, List.length_map, List.length_range] at R
    refine wpAny_pyNext_range_end O.hh (R.rawAt (List.mem_cons_self ..)) (by omega) fun h' hs => ?_
    exact ⟨_, m, _, ⟨rfl, rfl⟩, R.dropRaw hs s.toks⟩
  · subst h1
    exact (Walks.range (prog := W.prog) (w := W.w) (A := F.A) O.hh I a c n).self i s _ _ (R.rawAt (List.mem_cons_self ..)) ⟨_, m, _, ⟨rfl, rfl⟩, R⟩

noncomputable def signsV (x : Str) : List Value := x.cps.toList.map fun c => .str ⟨#[c]⟩ 0
theorem Iters.str {x : Str} {t : Tok} : Iters W (.str x t) ob (signsV x) (fun _ => True) := by
  refine ⟨trivial, fun {F E lc rv} O hv s m news R => ?_⟩
  obtain ⟨u, rfl⟩ := nv_str hv
  have key : ∀ ty, (∀ {F : Fm} {E I i lc ob o}, FmOk W F → (o.cls = .type ty ∧ o.data = .fields #[.str x u, .int ((i : Nat) : Int) 0]) → Go W F E ⟨lc, (I, .raw o) :: ob⟩ (pyIter (.ref I)) fun r σ' => r = .ref I ∧ σ' = ⟨lc, (I, .raw o) :: ob⟩) →
      (ty = "str_ascii_iterator" ∨ ty = "str_iterator") → Src W (fun i o => o.cls = .type ty ∧ o.data = .fields #[.str x u, .int ((i : Nat) : Int) 0]) (signsV x) (fun _ => True) := fun ty hself hty => by
    have hI : ∀ {h : Heap} {I : Addr} {o : Obj} {i : Nat}, h.get? I = some o → (o.cls = .type ty ∧ o.data = .fields #[.str x u, .int ((i : Nat) : Int) 0]) → h.IsStrIter I ty x u i := fun e p => ⟨_, e, p.1, p.2⟩
    refine ⟨fun {F E I i lc ob o v} O h1 h2 h3 s m news R => ?_, fun {F E I lc ob o} O h1 h3 s m news R => ?_, fun {F E I i lc ob o} O h1 => hself O h1⟩
    · unfold signsV at h2
      rw [List.getElem?_map, Option.map_eq_some_iff] at h2
      obtain ⟨c, hc, rfl⟩ := h2
      have fin : ∀ h', h'.IsStrIter I ty x u (i + 1) → Heap.SameBut I s.heap h' → ∃ σ' m' news', ((∃ rv, some (Value.str ⟨#[c]⟩ s.toks) = some rv ∧ nv rv = .str ⟨#[c]⟩ 0) ∧ ∃ o', (o'.cls = .type ty ∧ o'.data = .fields #[.str x u, .int ((i + 1 : Nat) : Int) 0]) ∧ σ' = ⟨lc, (I, .raw o') :: ob⟩) ∧ Rep F σ' { s with heap := h', toks := s.toks + 1 } m' news' := fun h' ⟨o', e1, e2, e3⟩ hs =>
        ⟨_, m, _, ⟨⟨_, rfl, rfl⟩, o', ⟨e2, e3⟩, rfl⟩, R.setRaw PutO.head e1 hs _⟩
      have hc' : x.cps[i]? = some c := by simpa using hc
      rcases hty with rfl | rfl
      · exact wpAny_pyNext_ascii_item (hI (R.rawAt (List.mem_cons_self ..)) h1) hc' fin
      · exact wpAny_pyNext_wide_item (hI (R.rawAt (List.mem_cons_self ..)) h1) hc' fin
    · have fin : ∀ h', Heap.ExtBut I s.heap h' → ∃ σ' m' news', ((none : Option Value) = none ∧ σ' = ⟨lc, ob⟩) ∧ Rep F σ' { s with heap := h' } m' news' := fun h' hs => ⟨_, m, _, ⟨rfl, rfl⟩, R.dropRaw hs s.toks⟩
      have hn : x.cps[(signsV x).length]? = none := by simp [signsV]
      rcases hty with rfl | rfl
      · exact wpAny_pyNext_ascii_end O.hh (hI (R.rawAt (List.mem_cons_self ..)) h1) hn fin
      · exact wpAny_pyNext_wide_end O.hh (hI (R.rawAt (List.mem_cons_self ..)) h1) hn fin
  cases ha : x.cps.all (· < 128)
  · refine wpAny_pyIter_wide ha ?_
    refine ⟨⟨lc, (s.heap.objs.size, .raw _) :: ob⟩, m, _, ⟨_, _, fun i o => o.cls = .type "str_iterator" ∧ o.data = .fields #[.str x u, .int ((i : Nat) : Int) 0], rfl, rfl, ⟨rfl, rfl⟩, key _ (fun O h1 s m news R => ?_) (.inr rfl)⟩, R.raw _ rfl s.toks⟩
    exact wpAny_pyIter_striter_wide (x := x) (t := u) ⟨_, R.rawAt (List.mem_cons_self ..), h1⟩ ⟨_, m, _, ⟨rfl, rfl⟩, R⟩
  · refine wpAny_pyIter_ascii ha ?_
    refine ⟨⟨lc, (s.heap.objs.size, .raw _) :: ob⟩, m, _, ⟨_, _, fun i o => o.cls = .type "str_ascii_iterator" ∧ o.data = .fields #[.str x u, .int ((i : Nat) : Int) 0], rfl, rfl, ⟨rfl, rfl⟩, key _ (fun O h1 s m news R => ?_) (.inl rfl)⟩, R.raw _ rfl s.toks⟩
    exact wpAny_pyIter_striter_ascii (x := x) (t := u) ⟨_, R.rawAt (List.mem_cons_self ..), h1⟩ ⟨_, m, _, ⟨rfl, rfl⟩, R⟩

/-! for -/
noncomputable def Lp (i : Nat) (Inv : Nat → AS → Prop) (P : Flow → AS → Prop) (f : Flow) (σ : AS) : Prop := match f with
  | .next | .cont => Inv (i + 1) σ
  | .brk => P .next σ
  | .ret v => P (.ret v) σ
theorem lp_next {i : Nat} {Inv : Nat → AS → Prop} {P : Flow → AS → Prop} (h : Inv (i + 1) σ) : Lp i Inv P .next σ := h
theorem s_forK (k : Nat) (O : FmOk W F) (C : CallOk F) {x : Str} {px pos : Pos} {iter : Expr} {b : List Stmt} {P : Flow → AS → Prop} (hE : PassesOwn (model W.prog W.w) F.A F.env E) (xs : List Value) (Ok : Addr → List (Addr × AO) → Prop) (Inv : Addr → Nat → AS → Prop)
    (h : ∀ s m news, Rep F σ s m news → wpAny (model W.prog W.w) F.A (eval iter F.env) (fun v s₁ => (∃ σ₁ m₁ n₁, (∃ κ, Iters W (nv v) σ₁.obj xs (Ok κ) ∧ Inv κ 0 σ₁) ∧ Rep F σ₁ s₁ m₁ n₁) ∧ k ≤ s₁.toks) E s) (hok : ∀ κ i σ, Inv κ i σ → Ok κ σ.obj)
    (turn : ∀ κ raws, FmOk W (F.wr raws) → CallOk (F.wr raws) → ∀ i v σ, xs[i]? = some v → Inv κ i σ → Asg x v (fun σ₁ => GoFK W (F.wr raws) E k σ₁ (execs b (F.wr raws).env) (Lp i (Inv κ) P)) σ)
    (fin : ∀ κ σ, Inv κ xs.length σ → P .next σ) (hs : ∀ x, foldedSetIterable iter F.env x = pure x) : GoF W F E σ (exec (.For (.Name x px) iter b [] pos) F.env) P := fun s m news R => by
  refine wpAny_For (wpAny_mono (h s m news R) (fun v s₁ qq => ?_) fun _ _ e => e) hs
  obtain ⟨⟨σ₁, m₁, n₁, ⟨κ, hI, hinv⟩, R₁⟩, k₁⟩ := qq
  obtain ⟨lc₁, ob₁⟩ := σ₁
  refine goK k₁ (hI.2 O rfl s₁ m₁ n₁ R₁) (fun it s₂ σ₂ m₂ n₂ qq R₂ k₂ => ?_)
  obtain ⟨I, o, It, e1, e2, hit, S⟩ := qq
  subst e1 e2
  refine codeAny_forLoop (R := fun r s' => match r with | .ok f => ∃ σ' m' news', P (nf f) σ' ∧ Rep F σ' s' m' news' | .error e => cameBackBy (model W.prog W.w) F.A F.env E e s')
    (fun n s => ∃ i lc ob o m news, n = xs.length - i ∧ i ≤ xs.length ∧ It i o ∧ Inv κ i ⟨lc, ob⟩ ∧ Rep F ⟨lc, (I, .raw o) :: ob⟩ s m news ∧ k ≤ s.toks) (fun n s hI => ?_) _ ⟨0, lc₁, ob₁, o, m₂, n₂, rfl, Nat.zero_le _, hit, hinv, R₂, k₂⟩
  obtain ⟨i, lc, ob, o, m, news, rfl, hi, hit, hinv, R, hk⟩ := hI
  refine wpAny_passesOwn hE ?_
  rcases hv : xs[i]? with _ | v
  · have : i = xs.length := Nat.le_antisymm hi (by simpa using hv)
    subst this
    refine goE (S.done O hit (hok κ _ _ hinv) s m news R) (fun r s' σ' m' n' qq R' => ?_)
    obtain ⟨e1, e2⟩ := qq
    subst e1 e2
    exact wpAny_execs_nil ⟨_, m', n', fin κ _ hinv, R'⟩
  · have hlt := (List.getElem?_eq_some_iff.mp hv).1
    refine goK hk (S.item O hit hv (hok κ _ _ hinv) s m news R) (fun r s₃ σ₃ m₃ n₃ qq R₃ k₃ => ?_)
    obtain ⟨⟨rv, e1, e2⟩, o', hit', e3⟩ := qq
    subst e1 e3
    obtain ⟨raws, R₄, back⟩ := R₃.toLed.aside (small := ob) (fr := [(I, .raw o')]) (List.perm_append_singleton _ _).symm
    obtain ⟨lc', U, hb⟩ := turn κ raws (O.wr raws) (C.wr raws) i v ⟨lc, ob⟩ hv hinv
    refine wpAny_assign_Name (wpAny_passesOwn hE (goK (F := F.wr raws) k₃ (st_name (E := E) (O.wr raws) (C.wr raws) (v := v) U (P := fun σ' => σ' = ⟨lc', ob⟩) rfl rv e2 s₃ m₃ n₃ ⟨R₄, R₃.fr, R₃.nw, R₃.bl, R₃.tn, R₃.bare, R₃.os⟩) (fun _ s₅ σ₅ m₅ n₅ e5 R₅ k₅ => ?_)))
    subst e5
    refine wpAny_passesOwn hE (goK (F := F.wr raws) k₅ (hb s₅ m₅ n₅ R₅ k₅) (fun f s₆ σ₆ m₆ n₆ h₆ R₆ k₆ => ?_))
    have L₆ : Led F ⟨σ₆.loc, σ₆.obj ++ [(I, .raw o')]⟩ m₆.m n₆ := back R₆.toLed
    have R₇ : Rep F ⟨σ₆.loc, (I, .raw o') :: σ₆.obj⟩ s₆ m₆ n₆ := Rep.keep (junk := []) ⟨L₆, R₆.fr, R₆.nw, R₆.bl, R₆.tn, R₆.bare, R₆.os⟩ (by rw [List.append_nil]; exact List.perm_append_singleton _ _)
    have R₈ : Rep F σ₆ s₆ m₆ n₆ := Rep.keep (junk := [(I, .raw o')]) ⟨L₆, R₆.fr, R₆.nw, R₆.bl, R₆.tn, R₆.bare, R₆.os⟩ (.refl _)
    cases f with
    | next => exact ⟨xs.length - (i + 1), by omega, i + 1, _, _, o', m₆, n₆, rfl, hlt, hit', h₆, R₇, k₆⟩
    | cont => exact ⟨xs.length - (i + 1), by omega, i + 1, _, _, o', m₆, n₆, rfl, hlt, hit', h₆, R₇, k₆⟩
    | brk => exact ⟨σ₆, m₆, n₆, h₆, R₈⟩
    | ret v => exact ⟨σ₆, m₆, n₆, h₆, R₈⟩
theorem s_for (O : FmOk W F) (C : CallOk F) {x : Str} {px pos : Pos} {iter : Expr} {b : List Stmt} {P : Flow → AS → Prop} (hE : PassesOwn (model W.prog W.w) F.A F.env E) (xs : List Value) (Ok : List (Addr × AO) → Prop) (Inv : Nat → AS → Prop)
    (h : GoV W F E σ (eval iter F.env) fun v σ₁ => Iters W v σ₁.obj xs Ok ∧ Inv 0 σ₁) (hok : ∀ i σ, Inv i σ → Ok σ.obj)
    (turn : ∀ raws, FmOk W (F.wr raws) → CallOk (F.wr raws) → ∀ i v σ, xs[i]? = some v → Inv i σ → Asg x v (fun σ₁ => GoF W (F.wr raws) E σ₁ (execs b (F.wr raws).env) (Lp i Inv P)) σ)
    (fin : ∀ σ, Inv xs.length σ → P .next σ) (hs : ∀ x, foldedSetIterable iter F.env x = pure x := by intro _; rfl) : GoF W F E σ (exec (.For (.Name x px) iter b [] pos) F.env) P :=
  s_forK 0 O C hE xs (fun _ => Ok) (fun _ => Inv) (fun s m news R => wpAny_mono (h s m news R) (fun _ _ ⟨σ₁, m₁, n₁, q, R₁⟩ => ⟨⟨σ₁, m₁, n₁, ⟨0, q⟩, R₁⟩, Nat.zero_le _⟩) fun _ _ e => e) (fun _ => hok)
    (fun _ raws Or Cr i v σ hv hi => (turn raws Or Cr i v σ hv hi).imp fun _ ⟨U, q⟩ => ⟨U, q.atK⟩) (fun _ => fin) hs
theorem s_forL (O : FmOk W F) (C : CallOk F) {x : Str} {px pos : Pos} {iter : Expr} {b : List Stmt} {P : Flow → AS → Prop} (hE : PassesOwn (model W.prog W.w) F.A F.env E) (xs : List Value) (Ok : Addr → List (Addr × AO) → Prop) (Inv : Addr → Nat → AS → Prop)
    (h : GoV W F E σ (eval iter F.env) fun v σ₁ => ∃ κ, Iters W v σ₁.obj xs (Ok κ) ∧ Inv κ 0 σ₁) (hok : ∀ κ i σ, Inv κ i σ → Ok κ σ.obj)
    (turn : ∀ κ raws, FmOk W (F.wr raws) → CallOk (F.wr raws) → ∀ i v σ, xs[i]? = some v → Inv κ i σ → Asg x v (fun σ₁ => GoF W (F.wr raws) E σ₁ (execs b (F.wr raws).env) (Lp i (Inv κ) P)) σ)
    (fin : ∀ κ σ, Inv κ xs.length σ → P .next σ) (hs : ∀ x, foldedSetIterable iter F.env x = pure x := by intro _; rfl) : GoF W F E σ (exec (.For (.Name x px) iter b [] pos) F.env) P :=
  s_forK 0 O C hE xs Ok Inv (fun s m news R => wpAny_mono (h s m news R) (fun _ _ q => ⟨q, Nat.zero_le _⟩) fun _ _ e => e) hok
    (fun κ raws Or Cr i v σ hv hi => (turn κ raws Or Cr i v σ hv hi).imp fun _ ⟨U, q⟩ => ⟨U, q.atK⟩) fin hs
theorem s_forS (O : FmOk W F) (C : CallOk F) {x : Str} {px pos : Pos} {iter : Expr} {b : List Stmt} {P : Flow → AS → Prop} (hE : PassesOwn (model W.prog W.w) F.A F.env E) (hS : Strict (eval iter F.env)) (xs : List Value) (Ok : List (Addr × AO) → Prop) (Inv : Nat → AS → Prop)
    (h : GoV W F E σ (eval iter F.env) fun v σ₁ => Iters W v σ₁.obj xs Ok ∧ Inv 0 σ₁) (hok : ∀ i σ, Inv i σ → Ok σ.obj)
    (turn : ∀ raws, FmOk W (F.wr raws) → CallOk (F.wr raws) → ∀ i v σ, xs[i]? = some v → Inv i σ → Asg x v (fun σ₁ => GoFK W (F.wr raws) E 1 σ₁ (execs b (F.wr raws).env) (Lp i Inv P)) σ)
    (fin : ∀ σ, Inv xs.length σ → P .next σ) (hs : ∀ x, foldedSetIterable iter F.env x = pure x := by intro _; rfl) : GoF W F E σ (exec (.For (.Name x px) iter b [] pos) F.env) P :=
  s_forK 1 O C hE xs (fun _ => Ok) (fun _ => Inv) (fun s m news R => wpAny_mono (hS.any (h s m news R)) (fun _ _ ⟨⟨σ₁, m₁, n₁, q, R₁⟩, k₁⟩ => ⟨⟨σ₁, m₁, n₁, ⟨0, q⟩, R₁⟩, k₁⟩) fun _ _ e => e) (fun _ => hok) (fun _ => turn) (fun _ => fin) hs
end

end
/-! text M14 -/
section
open PySem.Builtin

section
variable {W : Wd} {F : Fm} {E : Value → Shared → Prop} {σ : AS} {lc : Lc} {ob ob' : List (Addr × AO)}

/-! numbers -/
section
variable {a b : Int} {t u : Tok}
theorem o_shl {P : Value → AS → Prop} (h1 : 0 ≤ b) (h2 : b ≤ 1000000) (h3 : a.natAbs < 2 ^ 64) (h : P (.int (a * 2 ^ b.toNat) 0) σ) : Op2 W F E σ (.int a t) (.int b u) (binaryOp .LShift) P := fun va vb ha hb s m news R => by
  obtain ⟨_, rfl⟩ := nv_int ha; obtain ⟨_, rfl⟩ := nv_int hb
  exact PyProof.Rows.lshift_int_small h1 h2 h3 ⟨σ, m, news, h, R.tok _⟩
theorem o_shr {P : Value → AS → Prop} (h1 : 0 ≤ b) (h : P (.int (a.fdiv (2 ^ b.toNat)) 0) σ) : Op2 W F E σ (.int a t) (.int b u) (binaryOp .RShift) P := fun va vb ha hb s m news R => by
  obtain ⟨_, rfl⟩ := nv_int ha; obtain ⟨_, rfl⟩ := nv_int hb
  exact PyProof.Rows.rshift_int h1 ⟨σ, m, news, h, R.tok _⟩
theorem o_and {P : Value → AS → Prop} (h : P (.int (Builtin.bitAnd a b) 0) σ) : Op2 W F E σ (.int a t) (.int b u) (binaryOp .BitAnd) P := fun va vb ha hb s m news R => by
  obtain ⟨_, rfl⟩ := nv_int ha; obtain ⟨_, rfl⟩ := nv_int hb
  exact PyProof.Rows.and_int ⟨σ, m, news, h, R.tok _⟩
theorem o_or {P : Value → AS → Prop} (h : P (.int (Builtin.bitOr a b) 0) σ) : Op2 W F E σ (.int a t) (.int b u) (binaryOp .BitOr) P := fun va vb ha hb s m news R => by
  obtain ⟨_, rfl⟩ := nv_int ha; obtain ⟨_, rfl⟩ := nv_int hb
  exact PyProof.Rows.or_int ⟨σ, m, news, h, R.tok _⟩
theorem o_mod {P : Value → AS → Prop} (h0 : b ≠ 0) (h : P (.int (a.fmod b) 0) σ) : Op2 W F E σ (.int a t) (.int b u) (binaryOp .Mod) P := fun va vb ha hb s m news R => by
  obtain ⟨_, rfl⟩ := nv_int ha; obtain ⟨_, rfl⟩ := nv_int hb
  exact PyProof.Rows.mod_int h0 ⟨σ, m, news, h, R.tok _⟩
theorem o_fdiv {P : Value → AS → Prop} (h0 : b ≠ 0) (h1 : b.natAbs.log2 < 9000) (h : P (.int (a.fdiv b) 0) σ) : Op2 W F E σ (.int a t) (.int b u) (binaryOp .FloorDiv) P := fun va vb ha hb s m news R => by
  obtain ⟨_, rfl⟩ := nv_int ha; obtain ⟨_, rfl⟩ := nv_int hb
  exact PyProof.Rows.floordiv_int h0 ⟨σ, m, news, h, R.tok _⟩ (.inl (PyProof.noPylong_of_log2 h1))
theorem o_pow {P : Value → AS → Prop} (h1 : 0 ≤ b) (h2 : b ≤ 1000000) (h3 : a.natAbs < 2 ^ 64) (h : P (.int (a ^ b.toNat) 0) σ) : Op2 W F E σ (.int a t) (.int b u) (binaryOp .Pow) P := fun va vb ha hb s m news R => by
  obtain ⟨_, rfl⟩ := nv_int ha; obtain ⟨_, rfl⟩ := nv_int hb
  exact PyProof.Rows.pow_int_small h1 h2 h3 ⟨σ, m, news, h, R.tok _⟩
end

/-! one item -/
noncomputable def Sub (W : Wd) (F : Fm) (E : Value → Shared → Prop) (σ : AS) (o i : Value) (P : Value → AS → Prop) : Prop :=
  ∀ vo vi, nv vo = o → nv vi = i → ∀ s m news, Rep F σ s m news → PySem.ItemOn (model W.prog W.w) F.A E vo vi (fun r s' => ∃ σ' m' news', P (nv r) σ' ∧ Rep F σ' s' m' news') s
noncomputable abbrev kSub (W : Wd) (F : Fm) (E : Value → Shared → Prop) (P : Value → AS → Prop) : Value → Value → AS → Prop := fun o i σ₂ => Sub W F E σ₂ o i P
theorem v_sub {e idx pos} {P : Value → AS → Prop} (h : GoV W F E σ (eval e F.env) (kGV W F E idx (kSub W F E P)))
    (hs : ∀ o i, subscripted idx false o i = operate [o, i] (getItem o i)) : GoV W F E σ (eval (.Subscript e idx pos) F.env) P := fun s m news R => by
  refine Subscript_ (goE (h s m news R) (fun o s₁ σ₁ m₁ n₁ h₁ R₁ => goE (h₁ s₁ m₁ n₁ R₁) (fun i s₂ σ₂ m₂ n₂ h₂ R₂ => ?_)))
  obtain ⟨T, id, hl, hT, hg⟩ := h₂ o i rfl rfl s₂ m₂ n₂ R₂
  unfold subscriptTail
  refine wpAny_bind ?_
  rw [getitemInPython_of_ne hT.not_modules]
  refine wpAny_bind (wpAny_specialOf hT hl ?_)
  have fin : wpAny (model W.prog W.w) F.A (subscripted idx false o i) (fun r s₃ => wpAny (model W.prog W.w) F.A (letTemporaryGo e o r >>= fun _ => pure r) (fun r s' => ∃ σ' m' news', P (nv r) σ' ∧ Rep F σ' s' m' news') E s₃) E s₂ := by
    rw [hs]
    exact wpAny_operating (wpAny_mono hg (fun r s₃ h₃ => wpAny_bind (wpAny_letTemporaryGo (wpAny_pure h₃))) fun _ _ x => x)
  exact wpAny_pure (wpAny_bind fin)
theorem i_list {l : Addr} {xs : List Value} {k : Int} {t : Tok} {x : Value} {P : Value → AS → Prop} (hl : (l, AO.list xs) ∈ σ.obj) (h0 : 0 ≤ k) (hx : xs[k.toNat]? = some x) (hz : xs.length ≤ sizeLine) (h : P x σ) : Sub W F E σ (.ref l) (.int k t) P := fun vo vi ho hi s m news R => by
  obtain rfl := nv_ref ho
  obtain ⟨u, rfl⟩ := nv_int hi
  obtain ⟨vs, n, g1, g2⟩ := R.listAt hl
  have hx' : (vs.toList.map nv)[k.toNat]? = some x := g2 ▸ hx
  rw [List.getElem?_map, Option.map_eq_some_iff] at hx'
  obtain ⟨y, hy, hxy⟩ := hx'
  have hlt := (List.getElem?_eq_some_iff.mp hx).1
  rw [sizeLine_eq] at hz
  exact ⟨"list", _, slot_list_getitem.lookup, ⟨_, g1, rfl⟩, wpAny_getItem_list (items := vs) ⟨_, g1, rfl, n, rfl⟩ h0 (by omega) (by simpa using hy) ⟨σ, m, news, by rw [hxy]; exact h, R⟩⟩
theorem i_str {x : Str} {k : Int} {t u : Tok} {c : Nat} {P : Value → AS → Prop} (h0 : 0 ≤ k) (hx : x.cps.toList[k.toNat]? = some c) (hz : x.length ≤ sizeLine) (h : P (.str ⟨#[c]⟩ 0) σ) : Sub W F E σ (.str x t) (.int k u) P := fun vo vi ho hi s m news R => by
  obtain ⟨_, rfl⟩ := nv_str ho
  obtain ⟨_, rfl⟩ := nv_int hi
  have hx' : x.cps[k.toNat]? = some c := by simpa using hx
  have hlt : k.toNat < x.length := (Array.getElem?_eq_some_iff.mp hx').1
  rw [sizeLine_eq] at hz
  refine ⟨"str", _, slot_str_getitem.lookup, typeIs_str _ _ _, PyProof.Rows.getItem_str (c := c) ?_ ?_ ⟨σ, m, news, h, R.tok _⟩⟩
  · have e1 : decide (k < -(2 ^ 63 : Int)) = false := decide_eq_false (by omega)
    have e2 : decide (k ≥ (2 ^ 63 : Int)) = false := decide_eq_false (by omega)
    rw [e1, e2]; rfl
  · have e : seqIndex? k x.length = some k.toNat := by
      unfold seqIndex?
      have h1 : ¬ k < 0 := by omega
      have h2 : k < (x.length : Int) := by omega
      simp [h1, h0, h2]
    rw [e]; exact hx'
theorem i_bytes {b : Array UInt8} {k : Int} {t u : Tok} {c : UInt8} {P : Value → AS → Prop} (h0 : 0 ≤ k) (hx : b.toList[k.toNat]? = some c) (hz : b.size ≤ 1000000) (h : P (.int (c.toNat : Int) 0) σ) : Sub W F E σ (.bytes b t) (.int k u) P := fun vo vi ho hi s m news R => by
  obtain ⟨_, rfl⟩ := nv_bytes ho
  obtain ⟨_, rfl⟩ := nv_int hi
  have hlt := (List.getElem?_eq_some_iff.mp hx).1
  have e : b.toList.toArray = b := Array.toArray_toList
  refine ⟨"bytes", _, FB.slot_bytes_getitem.lookup, typeIs_bytes _ _ _, ?_⟩
  rw [← e]
  refine getItem_bytes (l := b.toList) (by simp; omega) h0 (by simp at hlt ⊢; omega) ?_
  refine ⟨σ, m, news, ?_, R.tok _⟩
  have : b.toList.getD k.toNat 0 = c := by rw [List.getD_eq_getElem?_getD, hx]; rfl
  rw [this]; exact h

/-! lists -/
theorem v_list {elts : List Expr} {pos : Pos} {P : Value → AS → Prop} (h : Args W F E σ pos elts fun vs σ' => vs.length ≤ 1000 ∧ ∀ l, P (.ref l) ⟨σ'.loc, (l, .list vs) :: σ'.obj⟩) : GoV W F E σ (eval (.List elts pos) F.env) P := fun s m news R => by
  refine List_ (goE (h s m news R) (fun vs s₁ σ₁ m₁ n₁ qq R₁ => ?_))
  obtain ⟨hz, h₁⟩ := qq
  have hz' : vs.length ≤ 1000 := by simpa using hz
  refine newList_N R₁.fr R₁.nw (fun h' F' N' => ?_) (by rw [sizeLine_eq]; omega)
  refine ⟨_, m₁, _, h₁ _, R₁.add (add := [_]) (t := s₁.toks) F' N' (by simp [AO.addrs]) (fun b hb o => fresh_size R₁ (by simp only [AO.addrs, List.mem_singleton] at hb; exact hb ▸ Nat.le_refl _) o) ⟨vs.toArray, 0, List.mem_cons_self .., by simp⟩⟩
theorem m_list {l : Addr} {xs : List Value} {n : Str} {id : String} {P : Value → List Value → AS → Prop} (hl : (l, AO.list xs) ∈ σ.obj) (slot : Slot "list" n id) (hty : typeOf (.builtin id) = pure (.type "method_descriptor")) (h : P (.builtin id) [.ref l] σ) :
    Meth W F E σ (.ref l) n P := fun vo pl ho s m news R => by
  obtain rfl := nv_ref ho
  obtain ⟨vs, k, g1, g2⟩ := R.listAt hl
  exact getMethod_builtin ⟨_, g1, rfl⟩ PySem.F.plainAttrs_list slot hty (fun a e => by cases e; exact ⟨_, g1, rfl⟩) ⟨σ, m, news, h, R⟩
theorem f_append {l : Addr} {xs : List Value} {v : Value} {P : Value → AS → Prop} (U : PutO l (.list xs) (.list (xs ++ [v])) ob ob') (hz : xs.length ≤ 1000000) (h : P .none ⟨lc, ob'⟩) : CallF W F E ⟨lc, ob⟩ (.builtin "list.append") [.ref l, v] [] P := fun rf rvs rkw h1 h2 h3 s m news R => by
  obtain rfl := nv_builtin h1
  obtain ⟨a, b, rfl, q1, q2⟩ := map2 h2
  obtain rfl := nv_ref q1
  obtain rfl := nk0 h3
  obtain ⟨vs, n, g1, g2⟩ := R.listAt U.mem
  have hT : s.TypeIs (.ref l) "list" := ⟨_, g1, rfl⟩
  refine wpAny_call_entry slot_list_append hT entry_list_append ?_ (args_list_append _ _)
  show wpAny _ _ (List.listUpdate (.ref l) (·.push b) >>= fun _ => ret .none) _ _ s
  refine wpAny_bind (goE (g_update (W := W) (F := F.in1) (E := E) (P := fun _ σ' => σ' = ⟨lc, ob'⟩) (f := (·.push b)) U (fun vs hvs => by simp [hvs, q2]) (by rw [sizeLine_eq]; omega) (by simp; rw [sizeLine_eq]; omega) rfl s m news R.in1) (fun _ s' σ' m' n' e' R' => ?_))
  subst e'
  exact wpAny_pure ⟨.none, rfl, _, m', n', h, R'.out1⟩
theorem f_len_list {l : Addr} {xs : List Value} {P : Value → AS → Prop} (hl : (l, AO.list xs) ∈ σ.obj) (hz : xs.length ≤ 1000000) (h : P (.int xs.length 0) σ) : CallF W F E σ (.builtin "len") [.ref l] [] P := fun rf rvs rkw h1 h2 h3 s m news R => by
  obtain rfl := nv_builtin h1
  obtain ⟨a, rfl, q1⟩ := map1 h2
  obtain rfl := nv_ref q1
  obtain rfl := nk0 h3
  obtain ⟨vs, n, g1, g2⟩ := R.listAt hl
  have e : vs.size = xs.length := by have := congrArg List.length g2; simpa using this
  refine call_len_list (items := vs) ⟨_, g1, rfl, n, rfl⟩ (by omega) ⟨σ, m, news, ?_, R.tok _⟩
  show P (.int (vs.size : Nat) 0) σ
  rw [e]; exact h
theorem f_len_bytes {b : Array UInt8} {t : Tok} {P : Value → AS → Prop} (hz : b.size ≤ 1000000) (h : P (.int b.size 0) σ) : CallF W F E σ (.builtin "len") [.bytes b t] [] P := fun rf rvs rkw h1 h2 h3 s m news R => by
  obtain rfl := nv_builtin h1
  obtain ⟨a, rfl, q1⟩ := map1 h2
  obtain ⟨_, rfl⟩ := nv_bytes q1
  obtain rfl := nk0 h3
  exact len_bytes (by omega) ⟨σ, m, news, h, R.tok _⟩
end

end
/-! text M15 -/
section
open PySem.Builtin

theorem intsAre_of : ∀ {vs : List Value} {ns : List Int}, vs.map nv = ns.map (fun n => Value.int n 0) → IntsAre vs ns
  | [], [], _ => .nil
  | [], _ :: _, h => by simp at h
  | _ :: _, [], h => by simp at h
  | v :: vs, n :: ns, h => by
    simp only [List.map_cons, List.cons.injEq] at h
    obtain ⟨u, rfl⟩ := nv_int h.1
    exact .cons n u (intsAre_of h.2)
noncomputable def strV (ys : List Str) : List Value := ys.map fun y => .str y 0
noncomputable def intV (ns : List Int) : List Value := ns.map fun n => .int n 0
theorem allStr_strV (ys : List Str) : AllStr (strV ys) := fun v hv => by
  obtain ⟨y, _, rfl⟩ := List.mem_map.mp hv
  exact ⟨y, rfl⟩
theorem strV_map (l : List (Str × Tok)) : (strValues l).map nv = strV (l.map (·.1)) := by
  induction l with
  | nil => rfl
  | cons p l ih => simp only [strValues, strV, List.map_cons, List.map_map] at ih ⊢; exact List.cons_eq_cons.mpr ⟨rfl, ih⟩

section
variable {W : Wd} {F : Fm} {E : Value → Shared → Prop} {σ : AS} {lc : Lc} {ob ob' : List (Addr × AO)}

theorem Rep.grow {s : Shared} {m : Mp} {news : List (Addr × Obj)} (R : Rep F σ s m news) {h' : Heap} (hk : ∀ b o, s.heap.get? b = some o → h'.get? b = some o) (t : Nat) : Rep F σ { s with heap := h', toks := t } m news :=
  R.pushed (R.fr.keptAll hk) (R.nw.grown hk)
theorem f_bytes (O : FmOk W F) {l : Addr} {ns : List Int} {P : Value → AS → Prop} (hl : (l, AO.list (intV ns)) ∈ σ.obj) (hr : KBa.In ns) (hz : ns.length ≤ 1000000) (h : P (.bytes (byteArr ns) 0) σ) : CallF W F E σ (.type "bytes") [.ref l] [] P := fun rf rvs rkw h1 h2 h3 s m news R => by
  obtain rfl := nv_type h1
  obtain ⟨a, rfl, q1⟩ := map1 h2
  obtain rfl := nv_ref q1
  obtain rfl := nk0 h3
  obtain ⟨vs, n, g1, g2⟩ := R.listAt hl
  have hi : IntsAre vs.toList ns := intsAre_of g2
  refine call_bytes_ints (vs := vs.toList) (ns := ns) ⟨_, g1, rfl, n, by simp⟩ hi hr (by rw [hi.length, sizeLine_eq]; omega) O.hh fun h' t k hk => ?_
  exact ⟨σ, m, news, h, R.grow hk k⟩
theorem f_join {x : Str} {t : Tok} {l : Addr} {ys : List Str} {P : Value → AS → Prop} (hl : (l, AO.list (strV ys)) ∈ σ.obj) (hok : (ys.map (·.length)).sum + ys.length * x.length ≤ 16777216) (h : P (.str (Txt.join x ys) 0) σ) :
    CallF W F E σ (.builtin "str.join") [.str x t, .ref l] [] P := fun rf rvs rkw h1 h2 h3 s m news R => by
  obtain rfl := nv_builtin h1
  obtain ⟨a, b, rfl, q1, q2⟩ := map2 h2
  obtain ⟨_, rfl⟩ := nv_str q1
  obtain rfl := nv_ref q2
  obtain rfl := nk0 h3
  obtain ⟨vs, n, g1, g2⟩ := R.listAt hl
  exact join_list (items := vs) ⟨_, g1, rfl, n, rfl⟩ (strsAre_of g2) hok fun t' k => ⟨σ, m, news, h, R.tok _⟩
theorem f_split {x y : Str} {t u : Tok} {P : Value → AS → Prop} (hy : (y.length == 0) = false) (hz : x.length ≤ 1000000) (h : ∀ l, P (.ref l) ⟨lc, (l, .list (strV (Txt.split x y))) :: ob⟩) :
    CallF W F E ⟨lc, ob⟩ (.builtin "str.split") [.str x t, .str y u] [] P := fun rf rvs rkw h1 h2 h3 s m news R => by
  obtain rfl := nv_builtin h1
  obtain ⟨a, b, rfl, q1, q2⟩ := map2 h2
  obtain ⟨_, rfl⟩ := nv_str q1
  obtain ⟨_, rfl⟩ := nv_str q2
  obtain rfl := nk0 h3
  refine KSpl.split1 R.fr R.nw hy (fun D l h' k e hs F' N' hlt => ?_) (by rw [sizeLine_eq]; omega)
  refine ⟨⟨lc, (D, .list (strV (Txt.split x y))) :: ob⟩, m, _, h D, R.add (add := [_]) (t := k) F' N' (by simp [AO.addrs]) (fun b hb o ho => ?_) ⟨_, 0, List.mem_cons_self .., ?_⟩⟩
  · simp only [AO.addrs, List.mem_singleton] at hb
    subst hb
    exact absurd (hlt _ ho) (Nat.lt_irrefl _)
  · rw [← e, ← strV_map]
theorem o_mul_str {x : Str} {n : Int} {t u : Tok} {P : Value → AS → Prop} (hok : MulOk x n) (h : P (.str (Txt.mul x n) 0) σ) : Op2 W F E σ (.str x t) (.int n u) (binaryOp .Mult) P := fun va vb ha hb s m news R => by
  obtain ⟨_, rfl⟩ := nv_str ha; obtain ⟨_, rfl⟩ := nv_int hb
  exact SB.mul hok fun t' k => ⟨σ, m, news, h, R.tok _⟩
theorem x_ne_bytes {b c : Array UInt8} {t u : Tok} {P : Bool → AS → Prop} (h : P (b.toList != c.toList) σ) : Cmp W F E σ .NotEq (.bytes b t) (.bytes c u) P := fun va vb ha hb s m news R => by
  obtain ⟨_, rfl⟩ := nv_bytes ha; obtain ⟨_, rfl⟩ := nv_bytes hb
  exact PySem.W.ne_bytes ⟨σ, m, news, ⟨_, rfl, h⟩, R⟩

/-! lists of texts compared -/
theorem FmOk.line (O : FmOk W F) : F.A.units < cLine := by
  have := O.units
  have e : cLine = cLine := rfl
  exact Nat.lt_of_lt_of_le (Nat.lt_of_le_of_lt (Nat.le_trans (Nat.le_add_right _ _) this) (Nat.lt_succ_self 8000)) (by decide +kernel)
theorem eqAt_nv {A : Around} {s : Shared} {v u : Value} {x : Str} (hv : nv v = .str x 0) (hu : nv u = .str x 0) : SeqAt.EqAt A s v u true := by
  obtain ⟨t, rfl⟩ := nv_str hv
  obtain ⟨t', rfl⟩ := nv_str hu
  have := SeqAt.EqAt.str_str (A := A) (s := s) x t x t'
  rwa [beq_self_eq_true] at this
theorem same_items {vs us : Array Value} {xs : List Value} (h1 : vs.toList.map nv = xs) (h2 : us.toList.map nv = xs) : vs.size = us.size ∧ ∀ j (a : j < vs.size) (b : j < us.size), nv vs[j] = nv us[j] ∧ nv vs[j] ∈ xs := by
  have e : vs.size = us.size := by have := congrArg List.length (h1.trans h2.symm); simpa using this
  refine ⟨e, fun j a b => ?_⟩
  have e1 : (vs.toList.map nv)[j]? = some (nv vs[j]) := by simp [a]
  have e2 : (us.toList.map nv)[j]? = some (nv us[j]) := by simp [b]
  rw [h1] at e1; rw [h2] at e2
  exact ⟨Option.some.inj (e1.symm.trans e2), List.mem_of_getElem? e1⟩
theorem eqAt_lists {A : Around} {s : Shared} {l b : Addr} {vs us : Array Value} {xs : List Value} (hl : s.heap.IsList l vs) (hb : s.heap.IsList b us) (h1 : vs.toList.map nv = xs) (h2 : us.toList.map nv = xs) (ha : AllStr xs) (hu : A.units < cLine) :
    SeqAt.RcAt A s (.ref l) (.ref b) true ∧ SeqAt.RcNeAt A s (.ref l) (.ref b) false := by
  obtain ⟨e, hj⟩ := same_items h1 h2
  have he : ∀ j (a : j < vs.size) (b : j < us.size), SeqAt.EqAt A.in1 s vs[j] us[j] ((fun _ => true) j) := fun j a b => by
    obtain ⟨e1, e2⟩ := hj j a b
    obtain ⟨x, hx⟩ := ha _ e2
    exact eqAt_nv hx (e1 ▸ hx)
  have a := SeqAt.RcAt.lists hl hb e hu he
  have b := SeqAt.RcNeAt.lists hl hb e hu he
  have t : (List.range vs.size).all (fun _ => true) = true := by simp
  rw [t] at a b
  exact ⟨a, b⟩
theorem x_ne_same (O : FmOk W F) {l b : Addr} {xs : List Value} {P : Bool → AS → Prop} (hl : (l, AO.list xs) ∈ σ.obj) (hb : (b, AO.list xs) ∈ σ.obj) (ha : AllStr xs) (h : P false σ) : Cmp W F E σ .NotEq (.ref l) (.ref b) P := fun va vb hva hvb s m news R => by
  obtain rfl := nv_ref hva; obtain rfl := nv_ref hvb
  obtain ⟨vs, n, g1, g2⟩ := R.listAt hl
  obtain ⟨us, k, g3, g4⟩ := R.listAt hb
  exact (eqAt_lists (A := F.A) (s := s) ⟨_, g1, rfl, n, rfl⟩ ⟨_, g3, rfl, k, rfl⟩ g2 g4 ha O.line).2 W.prog W.w E _ ⟨σ, m, news, ⟨_, rfl, h⟩, R⟩
inductive Same2 (ob : List (Addr × AO)) : List Value → List Value → Prop
  | nil : Same2 ob [] []
  | cons {l b : Addr} {xs : List Value} {r q : List Value} : (l, AO.list xs) ∈ ob → (b, AO.list xs) ∈ ob → AllStr xs → Same2 ob r q → Same2 ob (.ref l :: r) (.ref b :: q)
theorem Same2.length {r q : List Value} (h : Same2 ob r q) : r.length = q.length := by
  induction h with
  | nil => rfl
  | cons _ _ _ _ ih => simp [ih]
theorem Same2.at {r q : List Value} (h : Same2 ob r q) : ∀ {j : Nat} {v u : Value}, r[j]? = some v → q[j]? = some u → ∃ l b xs, v = .ref l ∧ u = .ref b ∧ (l, AO.list xs) ∈ ob ∧ (b, AO.list xs) ∈ ob ∧ AllStr xs := by
  induction h with
  | nil => intro j v u h; simp at h
  | cons h1 h2 h3 _ ih =>
    intro j v u hv hu
    cases j with
    | zero => simp at hv hu; exact ⟨_, _, _, hv.symm, hu.symm, h1, h2, h3⟩
    | succ j => exact ih (by simpa using hv) (by simpa using hu)
theorem same2_ne (O : FmOk W F) (hr : 1 ≤ F.room) {l b : Addr} {r q : List Value} {s : Shared} {m : Mp} {news : List (Addr × Obj)} (hl : (l, AO.list r) ∈ σ.obj) (hb : (b, AO.list q) ∈ σ.obj) (hs : Same2 σ.obj r q) (R : Rep F σ s m news) :
    SeqAt.RcAt F.A s (.ref l) (.ref b) true ∧ SeqAt.RcNeAt F.A s (.ref l) (.ref b) false := by
  obtain ⟨vs, n, g1, g2⟩ := R.listAt hl
  obtain ⟨us, k, g3, g4⟩ := R.listAt hb
  have e : vs.size = us.size := by
    have h1 := congrArg List.length g2
    have h2 := congrArg List.length g4
    have := hs.length
    simp at h1 h2
    omega
  have hu := O.line
  have hu1 : F.A.in1.units < cLine := (O.in1 hr).line
  have he : ∀ j (a : j < vs.size) (b : j < us.size), SeqAt.EqAt F.A.in1 s vs[j] us[j] ((fun _ => true) j) := fun j a b => by
    have e1 : (vs.toList.map nv)[j]? = some (nv vs[j]) := by simp [a]
    have e2 : (us.toList.map nv)[j]? = some (nv us[j]) := by simp [b]
    rw [g2] at e1; rw [g4] at e2
    obtain ⟨l', b', xs, q1, q2, m1, m2, ha⟩ := hs.at e1 e2
    rw [nv_ref q1, nv_ref q2]
    obtain ⟨vs', n', f1, f2⟩ := R.listAt m1
    obtain ⟨us', k', f3, f4⟩ := R.listAt m2
    by_cases hne : l' = b'
    · subst hne; exact SeqAt.EqAt.same _
    · exact SeqAt.EqAt.of_refs hne (eqAt_lists (A := F.A.in1) (s := s) ⟨_, f1, rfl, n', rfl⟩ ⟨_, f3, rfl, k', rfl⟩ f2 f4 ha hu1).1
  have a := SeqAt.RcAt.lists (s := s) (l := l) (b := b) (items := vs) (items2 := us) ⟨_, g1, rfl, n, rfl⟩ ⟨_, g3, rfl, k, rfl⟩ e hu he
  have b := SeqAt.RcNeAt.lists (s := s) (l := l) (b := b) (items := vs) (items2 := us) ⟨_, g1, rfl, n, rfl⟩ ⟨_, g3, rfl, k, rfl⟩ e hu he
  have t : (List.range vs.size).all (fun _ => true) = true := by simp
  rw [t] at a b
  exact ⟨a, b⟩
theorem x_ne_same2 (O : FmOk W F) (hr : 1 ≤ F.room) {l b : Addr} {r q : List Value} {P : Bool → AS → Prop} (hl : (l, AO.list r) ∈ σ.obj) (hb : (b, AO.list q) ∈ σ.obj) (hs : Same2 σ.obj r q) (h : P false σ) : Cmp W F E σ .NotEq (.ref l) (.ref b) P := fun va vb hva hvb s m news R => by
  obtain rfl := nv_ref hva; obtain rfl := nv_ref hvb
  exact (same2_ne O hr hl hb hs R).2 W.prog W.w E _ ⟨σ, m, news, ⟨_, rfl, h⟩, R⟩
theorem x_in_list {x : Str} {t : Tok} {l : Addr} {xs : List Value} {P : Bool → AS → Prop} (hl : (l, AO.list xs) ∈ σ.obj) (ha : AllStr xs) (h : P (xs.any (isStrV x)) σ) : Cmp W F E σ .In (.str x t) (.ref l) P := fun va vb hva hvb s m news R => by
  obtain ⟨u, rfl⟩ := nv_str hva; obtain rfl := nv_ref hvb
  obtain ⟨vs, n, g1, g2⟩ := R.listAt hl
  refine SeqAt.in_listAt (isStrV x) (items := vs) ⟨_, g1, rfl, n, rfl⟩ (fun y hy => ?_) ⟨σ, m, news, ⟨_, rfl, by rw [any_isStr g2]; exact h⟩, R⟩
  obtain ⟨z, t', rfl⟩ := ha.at g2 hy
  exact (eqGives_str z x t' u).at _ _
theorem x_notin_list {x : Str} {t : Tok} {l : Addr} {xs : List Value} {P : Bool → AS → Prop} (hl : (l, AO.list xs) ∈ σ.obj) (ha : AllStr xs) (h : P (!xs.any (isStrV x)) σ) : Cmp W F E σ .NotIn (.str x t) (.ref l) P := fun va vb hva hvb s m news R => by
  obtain ⟨u, rfl⟩ := nv_str hva; obtain rfl := nv_ref hvb
  obtain ⟨vs, n, g1, g2⟩ := R.listAt hl
  refine SeqAt.notIn_listAt (isStrV x) (items := vs) ⟨_, g1, rfl, n, rfl⟩ (fun y hy => ?_) ⟨σ, m, news, ⟨_, rfl, by rw [any_isStr g2]; exact h⟩, R⟩
  obtain ⟨z, t', rfl⟩ := ha.at g2 hy
  exact (eqGives_str z x t' u).at _ _
/-! ranges -/
theorem f_range1 {n : Int} {t : Tok} {P : Value → AS → Prop} (h : ∀ r o, rgO o 0 n 1 → P (.ref r) ⟨lc, (r, .raw o) :: ob⟩) : CallF W F E ⟨lc, ob⟩ (.type "range") [.int n t] [] P := fun rf rvs rkw h1 h2 h3 s m news R => by
  obtain rfl := nv_type h1
  obtain ⟨a, rfl, q1⟩ := map1 h2
  obtain ⟨u, rfl⟩ := nv_int q1
  obtain rfl := nk0 h3
  exact call_range_1 ⟨_, m, _, h _ _ ⟨_, _, _, rfl⟩, R.raw _ rfl _⟩
theorem f_range3 {a b c : Int} {t u v : Tok} {P : Value → AS → Prop} (hc : c ≠ 0) (hc' : c.natAbs < 1073741824) (h : ∀ r o, rgO o a b c → P (.ref r) ⟨lc, (r, .raw o) :: ob⟩) : CallF W F E ⟨lc, ob⟩ (.type "range") [.int a t, .int b u, .int c v] [] P := fun rf rvs rkw h1 h2 h3 s m news R => by
  obtain rfl := nv_type h1
  obtain ⟨x, y, z, rfl, q1, q2, q3⟩ := map3 h2
  obtain ⟨_, rfl⟩ := nv_int q1
  obtain ⟨_, rfl⟩ := nv_int q2
  obtain ⟨_, rfl⟩ := nv_int q3
  obtain rfl := nk0 h3
  exact call_range_3 hc ⟨_, m, _, h _ _ ⟨_, _, _, rfl⟩, R.raw _ rfl _⟩ (.inl (PyProof.noPylong_small hc'))
end

end
/-! text M16 -/
section
open PySem.Builtin

theorem trTab_get (a0 a1 c : UInt8) : (trTab #[43, 47] #[a0, a1]).getD c.toNat c = if c = 43 then a0 else if c = 47 then a1 else c := by
  have hid : ((Array.range 256).map (·.toUInt8)).size = 256 := by simp
  have hc : c.toNat < 256 := c.toNat_lt
  show ((((Array.range 256).map (·.toUInt8)).setIfInBounds 43 a0).setIfInBounds 47 a1).getD c.toNat c = _
  rw [Array.getD_eq_getD_getElem?, Array.getElem?_setIfInBounds, Array.getElem?_setIfInBounds]
  by_cases h1 : c = 47
  · subst h1; simp
  · have n1 : ¬ (47 = c.toNat) := fun e => h1 (UInt8.toNat_inj.mp e.symm)
    rw [if_neg n1]
    by_cases h2 : c = 43
    · subst h2; simp
    · have n2 : ¬ (43 = c.toNat) := fun e => h2 (UInt8.toNat_inj.mp e.symm)
      rw [if_neg n2, if_neg h2, if_neg h1]
      simp [hc]
section
variable {W : Wd} {F : Fm} {E : Value → Shared → Prop} {σ : AS} {lc : Lc} {ob ob' : List (Addr × AO)}
theorem c_bytes {b : List UInt8} {k pos} {P : Value → AS → Prop} (h : P (.bytes b.toArray 0) σ) : GoV W F E σ (eval (.Constant (.bytes b) k pos) F.env) P := fun s m news R =>
  Constant_bytes ⟨σ, m, news, h, R.tok _⟩
theorem m_bytes {b : Array UInt8} {t : Tok} {n : Str} {id : String} {P : Value → List Value → AS → Prop} (slot : Slot "bytes" n id) (hty : typeOf (.builtin id) = pure (.type "method_descriptor")) (h : P (.builtin id) [.bytes b 0] σ) :
    Meth W F E σ (.bytes b t) n P := fun vo pl ho s m news R => by
  obtain ⟨u, rfl⟩ := nv_bytes ho
  exact getMethod_builtin (typeIs_bytes s b u) FB.plainAttrs_bytes slot hty (fun _ e => nomatch e) ⟨σ, m, news, h, R⟩
theorem f_encode {x : Str} {t u : Tok} {P : Value → AS → Prop} (hb : ∀ c ∈ x.cps.toList, c < 128) (hz : x.length ≤ 1000000) (h : P (.bytes (x.cps.map (·.toUInt8)) 0) σ) : CallF W F E σ (.builtin "str.encode") [.str x t, .str (Str.ofString "ascii") u] [] P := fun rf rvs rkw h1 h2 h3 s m news R => by
  obtain rfl := nv_builtin h1
  obtain ⟨a, b, rfl, q1, q2⟩ := map2 h2
  obtain ⟨_, rfl⟩ := nv_str q1
  obtain ⟨_, rfl⟩ := nv_str q2
  obtain rfl := nk0 h3
  exact c_encode hb hz ⟨σ, m, news, h, R.tok _⟩
theorem f_decode {b : Array UInt8} {t u : Tok} {P : Value → AS → Prop} (hb : ∀ c ∈ b.toList, c.toNat < 128) (hz : b.size ≤ 1000000) (h : P (.str ⟨b.map (·.toNat)⟩ 0) σ) : CallF W F E σ (.builtin "bytes.decode") [.bytes b t, .str (Str.ofString "ascii") u] [] P := fun rf rvs rkw h1 h2 h3 s m news R => by
  obtain rfl := nv_builtin h1
  obtain ⟨a, b, rfl, q1, q2⟩ := map2 h2
  obtain ⟨_, rfl⟩ := nv_bytes q1
  obtain ⟨_, rfl⟩ := nv_str q2
  obtain rfl := nk0 h3
  exact c_decode hb hz fun t' k => ⟨σ, m, news, h, R.tok _⟩
theorem f_maketrans {a b : Array UInt8} {t u : Tok} {P : Value → AS → Prop} (hs : a.size = b.size) (h : P (.bytes (trTab a b) 0) σ) : CallF W F E σ (.builtin "bytes.maketrans") [.bytes a t, .bytes b u] [] P := fun rf rvs rkw h1 h2 h3 s m news R => by
  obtain rfl := nv_builtin h1
  obtain ⟨a, b, rfl, q1, q2⟩ := map2 h2
  obtain ⟨_, rfl⟩ := nv_bytes q1
  obtain ⟨_, rfl⟩ := nv_bytes q2
  obtain rfl := nk0 h3
  exact c_maketrans hs ⟨σ, m, news, h, R.tok _⟩
theorem f_translate {b tb : Array UInt8} {t u : Tok} {P : Value → AS → Prop} (hz : b.size ≤ 1000000) (ht : tb.size = 256) (h : P (.bytes (b.map fun c => tb.getD c.toNat c) 0) σ) : CallF W F E σ (.builtin "bytes.translate") [.bytes b t, .bytes tb u] [] P := fun rf rvs rkw h1 h2 h3 s m news R => by
  obtain rfl := nv_builtin h1
  obtain ⟨a, b, rfl, q1, q2⟩ := map2 h2
  obtain ⟨_, rfl⟩ := nv_bytes q1
  obtain ⟨_, rfl⟩ := nv_bytes q2
  obtain rfl := nk0 h3
  exact c_translate hz ht fun t' k => ⟨σ, m, news, h, R.tok _⟩
end

end
/-! text M17 -/
section
open PySem.Builtin

/-! the cells that a comprehension reads -/
theorem closure_go {env : Env} : ∀ (names : List (Str × NameKind)) (cs : List (Str × Addr)), (∀ y, (y, NameKind.free) ∈ names → ∃ c, env.cells.lookup y = some c) →
    ∃ cl, (forIn names cs fun x r => (do
        let (name, kind) := x
        if kind == .free then do
          let c ← cellOf env name
          pure (ForInStep.yield ((name, c) :: r))
        else pure (ForInStep.yield r) : Sem (ForInStep (List (Str × Addr))))) = pure (cl ++ cs) ∧ cl.map (·.1) = ((names.filter fun p => p.2 == .free).map (·.1)).reverse ∧ ∀ p ∈ cl, env.cells.lookup p.1 = some p.2
  | [], cs, _ => ⟨[], rfl, rfl, fun _ h => nomatch h⟩
  | (n, k) :: r, cs, h => by
    have hr : ∀ y, (y, NameKind.free) ∈ r → ∃ c, env.cells.lookup y = some c := fun y hy => h y (List.mem_cons_of_mem _ hy)
    by_cases hk : k = .free
    · subst hk
      obtain ⟨c, hc⟩ := h n (List.mem_cons_self ..)
      obtain ⟨cl, e1, e2, e3⟩ := closure_go (env := env) r ((n, c) :: cs) hr
      refine ⟨cl ++ [(n, c)], ?_, ?_, fun p hp => ?_⟩
      · rw [List.forIn_cons]
        have : cellOf env n = pure c := by unfold cellOf; rw [hc]
        simp only [beq_self_eq_true, if_true, this, pure_bind]
        rw [e1]; simp
      · simp [e2]
      · rcases List.mem_append.mp hp with hp | hp
        · exact e3 p hp
        · rw [List.mem_singleton.mp hp]; exact hc
    · obtain ⟨cl, e1, e2, e3⟩ := closure_go (env := env) r cs hr
      have hb : (k == NameKind.free) = false := by simpa using hk
      refine ⟨cl, ?_, ?_, e3⟩
      · rw [List.forIn_cons]
        simp only [hb, Bool.false_eq_true, if_false, pure_bind]
        exact e1
      · simp [hb, e2]
theorem closure_eq {scope : Scope} {env : Env} (h : ∀ y, (y, NameKind.free) ∈ scope.names → ∃ c, env.cells.lookup y = some c) :
    ∃ cl, closureFor scope env = pure cl ∧ cl.map (·.1) = ((scope.names.filter fun p => p.2 == .free).map (·.1)).reverse ∧ ∀ p ∈ cl, env.cells.lookup p.1 = some p.2 := by
  obtain ⟨cl, e1, e2, e3⟩ := closure_go (env := env) scope.names [] h
  refine ⟨cl, ?_, e2, e3⟩
  unfold closureFor
  rw [List.append_nil] at e1
  exact (congrArg (fun m => m >>= fun r => pure r) e1).trans (by simp)

theorem look_nd {β : Type} {y : Str} {b : β} : ∀ {l : List (Str × β)}, (l.map (·.1)).Nodup → (y, b) ∈ l → l.lookup y = some b
  | (n, c) :: l, nd, h => by
    simp only [List.map_cons, List.nodup_cons] at nd
    rcases List.mem_cons.mp h with e | h'
    · cases e; simp
    · have hne : (y == n) = false := by
        rw [beq_eq_false_iff_ne]
        rintro rfl
        exact nd.1 (List.mem_map_of_mem (f := (·.1)) h')
      rw [List.lookup_cons, hne]
      exact look_nd nd.2 h'
noncomputable def Fm.cm (F : Fm) (scope : Scope) (cl : List (Str × Addr)) (C : Addr) (extra : List (Addr × Obj)) : Fm := { F with env := compEnvC scope cl C F.env, rest := F.rest ++ extra }
theorem FmOk.cm {W : Wd} {F : Fm} (O : FmOk W F) {scope : Scope} (hk : scope.kind = .function) (cl : List (Str × Addr)) (C : Addr) (extra : List (Addr × Obj)) : FmOk W (F.cm scope cl C extra) := ⟨O.X, O.T, hk, O.hg, O.hb, O.hh, O.depth, O.units⟩
theorem relabel_local {scope : Scope} {env : Env} {x : Str} (h : scope.names.lookup x = some .local) : (relabel scope env).names.lookup x = some .local := lookup_relabel_local h
theorem relabel_free {scope : Scope} {env : Env} {y : Str} (nd : (scope.names.map (·.1)).Nodup) (hk : env.scope.kind = .function) (h : (y, NameKind.free) ∈ scope.names) (hc : env.kindOf y = some .cell) : (relabel scope env).names.lookup y = some .cell := by
  have hm : (y, NameKind.cell) ∈ (relabel scope env).names := List.mem_map.mpr ⟨(y, NameKind.free), h, by
    have : (NameKind.free == NameKind.free && env.scope.kind == .function && env.kindOf y == some .cell) = true := by rw [hk, hc]; rfl
    show (if (NameKind.free == NameKind.free && env.scope.kind == .function && env.kindOf y == some .cell) = true then (y, NameKind.cell) else (y, NameKind.free)) = _
    rw [if_pos this]⟩
  have e : (relabel scope env).names.map (·.1) = scope.names.map (·.1) := by
    unfold relabel
    dsimp only
    rw [List.map_map]
    refine List.map_congr_left fun p _ => ?_
    obtain ⟨n, k⟩ := p
    dsimp only [Function.comp]
    split <;> rfl
  exact look_nd (e ▸ nd) hm

section
variable {W : Wd} {F : Fm} {E : Value → Shared → Prop} {σ : AS} {lc : Lc} {ob ob' : List (Addr × AO)} {s : Shared} {m : Mp} {news : List (Addr × Obj)}
structure CmOk (F : Fm) (scope : Scope) (x : Str) (lc : Lc) (frees : Fl) : Prop where
  kind : scope.kind = .function
  nd : (scope.names.map (·.1)).Nodup
  hx : scope.names.lookup x = some .local
  xd : (x == ("__debug__" : Str)) = false
  fr : ∀ p ∈ frees, (p.1, some p.2) ∈ lc ∧ (p.1, NameKind.free) ∈ scope.names ∧ F.env.kindOf p.1 = some .cell
  all : ∀ y, (y, NameKind.free) ∈ scope.names → y ∈ frees.map (·.1)
  fn : (x :: frees.map (·.1)).Nodup
noncomputable abbrev cmL (x : Str) (xv : Option Value) (frees : Fl) : Lc := (x, xv) :: frees.map fun p => (p.1, some p.2)
theorem Rep.enter (R : Rep F ⟨lc, ob⟩ s m news) (hkF : F.env.scope.kind = .function) {scope : Scope} {x : Str} {frees : Fl} (K : CmOk F scope x lc frees) {cl : List (Str × Addr)}
    (e2 : cl.map (·.1) = ((scope.names.filter fun p => p.2 == .free).map (·.1)).reverse) (e3 : ∀ p ∈ cl, F.env.cells.lookup p.1 = some p.2) {h' : Heap} {oF : Obj} (hn : h'.Ns s.heap.objs.size fun _ => none) (hs : Heap.SameBut s.heap.objs.size (s.heap.push oF) h') (t : Nat) :
    ∃ extra oL, Rep (F.cm scope cl s.heap.objs.size extra) ⟨cmL x none frees, ob⟩ { s with heap := h', toks := t } ⟨fun _ => none, m.g⟩ ((F.env.locals, oL) :: news) ∧
      ∀ σ' s' m' news', Rep (F.cm scope cl s.heap.objs.size extra) σ' s' m' news' → (∀ p ∈ frees, (p.1, some p.2) ∈ σ'.loc) →
        ∃ oC, Rep (F.wr [(s.heap.objs.size, oC)]) ⟨lc, σ'.obj⟩ s' ⟨m.m, m'.g⟩ ((s.heap.objs.size, oC) :: drop F.env.locals news') ∧ ∃ mC, ∀ h : Heap, h.get? s.heap.objs.size = some oC → h.Ns s.heap.objs.size mC := by
  have hC : ∀ p ∈ news, p.1 ≠ s.heap.objs.size := fun p hp => Nat.ne_of_lt (Heap.lt_size (R.nw p hp).1)
  have up : ∀ b o, s.heap.get? b = some o → h'.get? b = some o := fun b o e => (hs.2 b (Nat.ne_of_lt (Heap.lt_size e))).trans (Heap.get?_push_of_some _ e)
  obtain ⟨oL, esL, epL, hL, hL'⟩ := R.fr.ns
  obtain ⟨cr, hcr, hcr'⟩ := cells_raw R.cel
  have clm : ∀ p ∈ cl, p ∈ F.env.cells := fun p hp => mem_of_lookup (e3 p hp)
  have A1 := List.nodup_append.mp R.apart
  have ndc : (F.env.cells.map (·.2)).Nodup := A1.1
  have fl : ∀ y, (y, NameKind.free) ∈ scope.names ↔ y ∈ cl.map (·.1) := fun y => by
    rw [e2, List.mem_reverse, List.mem_map]
    constructor
    · intro h; exact ⟨(y, .free), List.mem_filter.mpr ⟨h, rfl⟩, rfl⟩
    · rintro ⟨p, hp, rfl⟩
      obtain ⟨h1, h2⟩ := List.mem_filter.mp hp
      have : p.2 = .free := by simpa using h2
      exact this ▸ h1
  have ndn : (cl.map (·.1)).Nodup := by
    rw [e2]
    refine (List.reverse_perm _).nodup_iff.mpr ?_
    exact K.nd.sublist (List.Sublist.map _ List.filter_sublist)
  have ndcl : (cl.map (·.2)).Nodup := by
    have : ∀ l : List (Str × Addr), (l.map (·.1)).Nodup → (∀ p ∈ l, p ∈ F.env.cells) → (l.map (·.2)).Nodup := by
      intro l
      induction l with
      | nil => intros; simp
      | cons p l ih =>
        intro h1 h2
        simp only [List.map_cons, List.nodup_cons] at h1 ⊢
        refine ⟨fun hm => ?_, ih h1.2 fun q hq => h2 q (List.mem_cons_of_mem _ hq)⟩
        obtain ⟨q, hq, e⟩ := List.mem_map.mp hm
        have := inj_nd ndc (h2 q (List.mem_cons_of_mem _ hq)) (h2 p (List.mem_cons_self ..)) e
        exact h1.1 (this ▸ List.mem_map_of_mem hq)
    exact this cl ndn clm
  let cr' := cr.filter fun q => !(cl.map (·.2)).contains q.1
  have cr'n : ∀ q ∈ cr', q ∈ news ∧ q.1 ∉ cl.map (·.2) := fun q hq => by
    obtain ⟨h1, h2⟩ := List.mem_filter.mp hq
    exact ⟨hcr' q h1, by simpa using h2⟩
  have cr'c : ∀ q ∈ cr', q.1 ∈ F.env.cells.map (·.2) := fun q hq => hcr ▸ List.mem_map_of_mem (List.mem_filter.mp hq).1
  have ndr' : (cr'.map (·.1)).Nodup := (hcr ▸ ndc : (cr.map (·.1)).Nodup).sublist (List.Sublist.map _ List.filter_sublist)
  have hLn : ∀ p ∈ news, p.1 ≠ F.env.locals := fun p hp => (R.nw p hp).2.1
  have hLg : m.g.get? F.env.locals = none := by
    cases q : m.g.get? F.env.locals with
    | none => rfl
    | some o => exact absurd (Heap.lt_size q) (Nat.not_lt.mpr R.fr.above)
  have obn : ∀ b ∈ addrsOf ob, ∃ o, (b, o) ∈ news := fun b hb => by
    obtain ⟨p, hp, hb⟩ := List.mem_flatMap.mp hb
    exact (R.obj p hp).ex hb
  have hLC : F.env.locals ≠ s.heap.objs.size := Nat.ne_of_lt (Heap.lt_size hL)
  have lookcl : ∀ p ∈ cl, cl.lookup p.1 = some p.2 := fun p hp => lookup_of_mem_nodup ndn (by exact hp)
  have wholeNews : News m.g s.heap.objs.size h' ((F.env.locals, oL) :: news) := fun p hp => by
    rcases List.mem_cons.mp hp with rfl | hp
    · exact ⟨up _ _ hL, hLC, hLg⟩
    · exact ⟨up _ _ (R.nw p hp).1, hC p hp, (R.nw p hp).2.2⟩
  refine ⟨(F.env.locals, oL) :: cr', oL, ⟨⟨fun y v hy => ?_, fun p hp => ?_, ?_, fun p hp => ?_, fun p hp => (R.obj p hp).to fun q hq _ => List.mem_cons_of_mem _ hq, fun p hp => ?_, ?_⟩, ?_, wholeNews, R.bl, R.tn, R.bare, R.os⟩, fun σ' s' m' news' R' hfr => ?_⟩
  · rcases List.mem_cons.mp hy with e | hy
    · cases e
    · obtain ⟨p, hp, e⟩ := List.mem_map.mp hy
      cases e
      obtain ⟨h1, h2, h3⟩ := K.fr p hp
      have hm : p.1 ∈ cl.map (·.1) := (fl _).mp h2
      obtain ⟨q, hq, e⟩ := List.mem_map.mp hm
      rcases R.loc p.1 p.2 h1 with ⟨hl, _⟩ | ⟨_, c, o, u, hc, ho, hod, hu⟩
      · rw [h3] at hl; cases hl
      · have := e3 q hq
        rw [e, hc] at this
        have e' : q.2 = c := (Option.some.inj this).symm
        exact .inr ⟨.inl (relabel_free K.nd hkF h2 h3), c, o, u, by have := lookcl q hq; rw [e, e'] at this; exact this, List.mem_cons_of_mem _ ho, hod, hu⟩
  · rcases List.mem_cons.mp hp with rfl | hp
    · exact ⟨.inl (relabel_local K.hx), K.xd⟩
    · obtain ⟨q, hq, rfl⟩ := List.mem_map.mp hp
      obtain ⟨h1, h2, h3⟩ := K.fr q hq
      have hm : q.1 ∈ cl.map (·.1) := (fl _).mp h2
      obtain ⟨r, hr, e⟩ := List.mem_map.mp hm
      exact ⟨.inr (.inl ⟨relabel_free K.nd hkF h2 h3, by have := lookcl r hr; rw [e] at this; show (cl.lookup q.1).isSome = true; rw [this]; rfl⟩), (R.knd _ h1).2⟩
  · have e : (cmL x none frees).map (·.1) = x :: frees.map (·.1) := by simp [Function.comp_def]
    show ((cmL x none frees).map (·.1)).Nodup
    rw [e]; exact K.fn
  · obtain ⟨o, u, h1, h2⟩ := R.cel p (clm p hp)
    exact ⟨o, u, List.mem_cons_of_mem _ h1, h2⟩
  · rcases List.mem_append.mp hp with hp | hp
    · exact List.mem_cons_of_mem _ (R.rst p hp)
    · rcases List.mem_cons.mp hp with rfl | hp
      · exact List.mem_cons_self ..
      · exact List.mem_cons_of_mem _ (cr'n p hp).1
  · have A2 := List.nodup_append.mp A1.2.1
    show (cl.map (·.2) ++ (addrsOf ob ++ (F.rest ++ ((F.env.locals, oL) :: cr')).map (·.1))).Nodup
    have clc : ∀ b ∈ cl.map (·.2), b ∈ F.env.cells.map (·.2) := fun b hb => by
      obtain ⟨p, hp, rfl⟩ := List.mem_map.mp hb
      exact List.mem_map_of_mem (clm p hp)
    have cellN : ∀ b ∈ F.env.cells.map (·.2), b ≠ F.env.locals := fun b hb e => by
      obtain ⟨p, hp, rfl⟩ := List.mem_map.mp hb
      obtain ⟨o, u, h1, _⟩ := R.cel p hp
      exact hLn _ h1 e
    have inner : (F.env.locals :: cr'.map (·.1)).Nodup := List.nodup_cons.mpr ⟨fun h => by
      obtain ⟨q, hq, e⟩ := List.mem_map.mp h
      exact hLn q (cr'n q hq).1 e, ndr'⟩
    rw [List.map_append, List.map_cons]
    refine List.nodup_append.mpr ⟨ndcl, ?_, fun c hc b hb e => ?_⟩
    · rw [← List.append_assoc]
      refine List.nodup_append.mpr ⟨A1.2.1, inner, fun b hb c hc e => ?_⟩
      subst e
      rcases List.mem_cons.mp hc with e | hc
      · rcases List.mem_append.mp hb with hb | hb
        · obtain ⟨o, ho⟩ := obn b hb; exact hLn _ ho e
        · obtain ⟨p, hp, e'⟩ := List.mem_map.mp hb; exact hLn p (R.rst p hp) (e'.trans e)
      · obtain ⟨q, hq, e'⟩ := List.mem_map.mp hc
        exact A1.2.2 b (e' ▸ cr'c q hq) b hb rfl
    · subst e
      rcases List.mem_append.mp hb with hb | hb
      · exact A1.2.2 c (clc c hc) c (List.mem_append_left _ hb) rfl
      · rcases List.mem_append.mp hb with hb | hb
        · exact A1.2.2 c (clc c hc) c (List.mem_append_right _ hb) rfl
        · rcases List.mem_cons.mp hb with e | hb
          · exact cellN c (clc c hc) e
          · obtain ⟨q, hq, e'⟩ := List.mem_map.mp hb
            exact (cr'n q hq).2 (e' ▸ hc)
  · exact ⟨hn, fun b o e => up b o (R.fr.keep b o e), Nat.le_of_lt (Nat.lt_of_le_of_lt R.fr.above (Heap.lt_size hL))⟩
  · obtain ⟨oC, esC, epC, hCg, hCr⟩ := R'.fr.ns
    have hC' : s'.heap.get? s.heap.objs.size = some oC := hCg
    refine ⟨oC, ?_, m'.m, fun h e => ⟨oC, esC, epC, e, hCr⟩⟩
    have hLm : (F.env.locals, oL) ∈ news' := R'.rst _ (List.mem_append_right _ (List.mem_cons_self ..))
    have hLg' := R'.nw _ hLm
    have B1 : (cl.map (·.2) ++ (addrsOf σ'.obj ++ (F.rest ++ ((F.env.locals, oL) :: cr')).map (·.1))).Nodup := R'.apart
    have B2 := List.nodup_append.mp B1
    have B3 := List.nodup_append.mp B2.2.1
    have objL : ∀ b ∈ addrsOf σ'.obj, b ≠ F.env.locals := fun b hb e => B3.2.2 b hb b (by rw [List.map_append]; exact List.mem_append_right _ (by rw [e]; exact List.mem_cons_self ..)) rfl
    have keepN : ∀ p ∈ news', p.1 ≠ F.env.locals → p ∈ (s.heap.objs.size, oC) :: drop F.env.locals news' := fun p hp hne => List.mem_cons_of_mem _ (mem_drop hp hne)
    have cellL : ∀ p ∈ F.env.cells, p.2 ≠ F.env.locals := fun p hp e => by
      obtain ⟨o, u, h1, _⟩ := R.cel p hp
      exact hLn _ h1 e
    have other : ∀ p ∈ F.env.cells, p.2 ∉ cl.map (·.2) → ∀ o, (p.2, o) ∈ news → (p.2, o) ∈ news' := fun p hp hnc o ho => by
      have hm : p.2 ∈ cr.map (·.1) := hcr ▸ List.mem_map_of_mem hp
      obtain ⟨q, hq, e⟩ := List.mem_map.mp hm
      have hqo : q = (p.2, o) := Prod.ext e (News.one R.nw (c := p.2) (by rw [← e]; exact hcr' q hq) ho)
      have : q ∈ cr' := List.mem_filter.mpr ⟨hq, by rw [hqo]; simpa using hnc⟩
      exact hqo ▸ R'.rst q (List.mem_append_right _ (List.mem_cons_of_mem _ this))
    have inCl : ∀ p ∈ F.env.cells, p.2 ∈ cl.map (·.2) → p ∈ cl := fun p hp hm => by
      obtain ⟨q, hq, e⟩ := List.mem_map.mp hm
      exact (inj_nd ndc (clm q hq) hp e) ▸ hq
    refine ⟨⟨fun y v hy => ?_, R.knd, R.nod, fun p hp => ?_, fun p hp => (R'.obj p hp).to fun q hq hb => keepN q hq (objL _ (mem_addrsOf hp hb)), fun p hp => ?_, ?_⟩, ?_, fun p hp => ?_, R'.bl, R'.tn, R'.bare, R'.os⟩
    · rcases R.loc y v hy with hl | ⟨hl, c, o, u, hc, ho, hod, hu⟩
      · exact .inl hl
      · have hcm : (y, c) ∈ F.env.cells := mem_of_lookup hc
        by_cases hin : c ∈ cl.map (·.2)
        · have hyc : (y, c) ∈ cl := inCl (y, c) hcm hin
          have hyf : (y, NameKind.free) ∈ scope.names := (fl y).mpr (List.mem_map_of_mem (f := (·.1)) hyc)
          obtain ⟨p, hp, e⟩ := List.mem_map.mp (K.all y hyf)
          obtain ⟨h1, h2, h3⟩ := K.fr p hp
          have hv : some p.2 = some v := congrArg Prod.snd (inj_nd R.nod h1 hy e)
          have hv := Option.some.inj hv
          subst e
          rcases R'.loc p.1 p.2 (hfr p hp) with ⟨hl', _⟩ | ⟨_, c', o', u', hc', ho', hod', hu'⟩
          · have : (relabel scope F.env).names.lookup p.1 = some .local := hl'
            rw [relabel_free K.nd hkF h2 h3] at this; cases this
          · have : cl.lookup p.1 = some c' := hc'
            rw [lookcl (p.1, c) hyc] at this
            have e' : c = c' := Option.some.inj this
            subst e'
            exact .inr ⟨hl, c, o', u', hc, keepN _ ho' (cellL (p.1, c) hcm), hod', hu'.trans hv⟩
        · exact .inr ⟨hl, c, o, u, hc, keepN _ (other (y, c) hcm hin o ho) (cellL (y, c) hcm), hod, hu⟩
    · by_cases hin : p.2 ∈ cl.map (·.2)
      · obtain ⟨o, u, h1, h2⟩ := R'.cel p (inCl p hp hin)
        exact ⟨o, u, keepN _ h1 (cellL p hp), h2⟩
      · obtain ⟨o, u, h1, h2⟩ := R.cel p hp
        exact ⟨o, u, keepN _ (other p hp hin o h1) (cellL p hp), h2⟩
    · rcases List.mem_append.mp hp with hp | hp
      · exact keepN p (R'.rst p (List.mem_append_left _ hp)) (hLn p (R.rst p hp))
      · rw [List.mem_singleton.mp hp]; exact List.mem_cons_self ..
    · have hCn : ∀ p ∈ news', p.1 ≠ s.heap.objs.size := fun p hp => (R'.nw p hp).2.1
      have obn' : ∀ b ∈ addrsOf σ'.obj, b ≠ s.heap.objs.size := fun b hb => by
        obtain ⟨p, hp, hb⟩ := List.mem_flatMap.mp hb
        obtain ⟨o, ho⟩ := (R'.obj p hp).ex hb
        exact hCn _ ho
      have rstn : ∀ b ∈ F.rest.map (·.1), b ≠ s.heap.objs.size := fun b hb => by
        obtain ⟨p, hp, rfl⟩ := List.mem_map.mp hb
        exact hC p (R.rst p hp)
      have celn : ∀ b ∈ F.env.cells.map (·.2), b ≠ s.heap.objs.size := fun b hb => by
        obtain ⟨p, hp, rfl⟩ := List.mem_map.mp hb
        obtain ⟨o, u, h1, _⟩ := R.cel p hp
        exact hC _ h1
      show (F.env.cells.map (·.2) ++ (addrsOf σ'.obj ++ (F.rest ++ [(s.heap.objs.size, oC)]).map (·.1))).Nodup
      rw [List.map_append, ← List.append_assoc (addrsOf σ'.obj), List.map_cons, List.map_nil]
      have B4 : (addrsOf σ'.obj ++ F.rest.map (·.1)).Nodup := by
        refine List.Nodup.sublist ?_ B2.2.1
        rw [List.map_append]
        exact (List.Sublist.refl _).append (List.sublist_append_left _ _)
      refine List.nodup_append.mpr ⟨ndc, List.nodup_append.mpr ⟨B4, by simp, fun b hb c hc e => ?_⟩, fun c hc b hb e => ?_⟩
      · rw [List.mem_singleton.mp hc] at e
        rcases List.mem_append.mp hb with hb | hb
        · exact obn' b hb e
        · exact rstn b hb e
      · subst e
        obtain ⟨p, hp, rfl⟩ := List.mem_map.mp hc
        rcases List.mem_append.mp hb with hb | hb
        · by_cases hin : p.2 ∈ cl.map (·.2)
          · refine B2.2.2 _ hin _ ?_ rfl
            rcases List.mem_append.mp hb with hb | hb
            · exact List.mem_append_left _ hb
            · exact List.mem_append_right _ (by rw [List.map_append]; exact List.mem_append_left _ hb)
          · have hq : p.2 ∈ cr'.map (·.1) := by
              have hm : p.2 ∈ cr.map (·.1) := hcr ▸ List.mem_map_of_mem hp
              obtain ⟨q, hq, e⟩ := List.mem_map.mp hm
              exact List.mem_map.mpr ⟨q, List.mem_filter.mpr ⟨hq, by rw [e]; simpa using hin⟩, e⟩
            rcases List.mem_append.mp hb with hb | hb
            · exact B3.2.2 _ hb _ (by rw [List.map_append, List.map_cons]; exact List.mem_append_right _ (List.mem_cons_of_mem _ hq)) rfl
            · exact A1.2.2 p.2 (List.mem_map_of_mem hp) p.2 (List.mem_append_right _ hb) rfl
        · exact celn _ hc (List.mem_singleton.mp hb)
    · exact ⟨⟨oL, esL, epL, hLg'.1, hL'⟩, R'.fr.keep, (R'.tn.size.trans R.tn.size.symm) ▸ R.fr.above⟩
    · rcases List.mem_cons.mp hp with rfl | hp
      · refine ⟨hC', fun e => hLC e.symm, ?_⟩
        cases q : m'.g.get? s.heap.objs.size with
        | none => rfl
        | some o => exact absurd (Heap.lt_size q) (Nat.not_lt.mpr R'.fr.above)
      · obtain ⟨h1, h2⟩ := drop_mem hp
        exact ⟨(R'.nw p h1).1, h2, (R'.nw p h1).2.2⟩
end

end
/-! text M18 -/
section
open PySem.Builtin

section
variable {W : Wd} {F : Fm} {E : Value → Shared → Prop} {σ : AS} {lc : Lc} {ob ob' : List (Addr × AO)} {s : Shared} {m : Mp} {news : List (Addr × Obj)}

theorem st_local (O : FmOk W F) {x : Str} {v : Value} {l' : Lc} {P : AS → Prop} (U : Put x v σ.loc l') (hl : F.env.kindOf x = some .local) (h : P ⟨l', σ.obj⟩) : Sto W F E σ x v P := fun rv hv s m news R => by
  subst hv
  refine wpAny_storeName_local hl R.fr.ns (fun h' hn hs => ?_) (by
    show (F.env.scope.kind == .class || (F.env.scope.kind == .module && F.env.locals != F.env.globals)) = false
    rw [O.hk]; rfl)
  refine ⟨_, ⟨fun y => if y = x then some rv else m.m y, m.g⟩, news, h, R.putL (m' := ⟨fun y => if y = x then some rv else m.m y, m.g⟩) rfl U (R.fr.set hn hs) (R.nw.set hs) (.inl ⟨hl, rv, if_pos rfl, rfl⟩) (fun y u hne hy => ?_) R.cel fun p hp _ => hp⟩
  rcases hy with ⟨h1, w, h2, h3⟩ | hy
  · exact .inl ⟨h1, w, (if_neg hne).trans h2, h3⟩
  · exact .inr hy

noncomputable abbrev testsOf (ifs : List Expr) (env : Env) : Sem Bool := forIn ifs true fun c r => if r = true then do let ok ← isTrue c env (eval c env); pure (ForInStep.yield ok) else pure (ForInStep.yield r)
noncomputable def CmTest (W : Wd) (G : Fm) (lcG : Lc) (ob : List (Addr × AO)) (ifs : List Expr) (b : Bool) : Prop :=
  ∀ E' obs, (∀ q ∈ ob, q ∈ obs) → Go W G E' ⟨lcG, obs⟩ (testsOf ifs G.env) fun ok => Less fun σ' => ok = b ∧ σ' = ⟨lcG, obs⟩
noncomputable def CmElt (W : Wd) (G : Fm) (lcG : Lc) (ob : List (Addr × AO)) (e : Expr) (y : Value) : Prop :=
  ∀ E' obs, (∀ q ∈ ob, q ∈ obs) → GoV W G E' ⟨lcG, obs⟩ (eval e G.env) fun r => Less fun σ' => r = y ∧ σ' = ⟨lcG, obs⟩
noncomputable def CmEltK (W : Wd) (G : Fm) (k : Nat) (lcG : Lc) (ob : List (Addr × AO)) (e : Expr) (y : Value) : Prop :=
  ∀ E' obs, (∀ q ∈ ob, q ∈ obs) → GoVK W G E' k ⟨lcG, obs⟩ (eval e G.env) fun r => Less fun σ' => r = y ∧ σ' = ⟨lcG, obs⟩
theorem GoK.less {α : Type} {t : Sem α} {k : Nat} {P : α → AS → Prop} (h : GoK W F E k σ t fun a => Less (P a)) : GoK W F E k σ t P := fun s m news R hk =>
  wpAny_mono (h s m news R hk) (fun a s' ⟨σ', m', n', ⟨k, j, hp, hP⟩, R'⟩ => ⟨_, m', n', hP, Rep.keep (lc := σ'.loc) (big := σ'.obj) R' hp⟩) fun _ _ e => e
theorem tests_none {G : Fm} {lcG : Lc} : CmTest W G lcG ob [] true := fun E' obs hs s m news R => wpAny_pure ⟨_, m, news, ⟨obs, [], by simp, rfl, rfl⟩, R⟩
theorem tests_one {G : Fm} {lcG : Lc} {c : Expr} {b : Bool} (h : ∀ E' obs, (∀ q ∈ ob, q ∈ obs) → Go W G E' ⟨lcG, obs⟩ (isTrue c G.env (eval c G.env)) fun ok => Less fun σ' => ok = b ∧ σ' = ⟨lcG, obs⟩) : CmTest W G lcG ob [c] b := fun E' obs hs s m news R =>
  wpAny_tests_one (h E' obs hs s m news R)

theorem comp_run (O : FmOk W F) {scope : Scope} {x : Str} {frees : Fl} (K : CmOk F scope x lc frees) (hncell : ∀ y ∈ scope.names, y.2 ≠ .cell) {cl : List (Str × Addr)}
    (e2 : cl.map (·.1) = ((scope.names.filter fun p => p.2 == .free).map (·.1)).reverse) (e3 : ∀ p ∈ cl, F.env.cells.lookup p.1 = some p.2)
    {elt iter : Expr} {px pos : Pos} {ifs : List Expr} {It : Nat → Obj → Prop} {xs : List Value} {Ok : List (Addr × AO) → Prop} (S : Src W It xs Ok) (hok : Ok ob) (hmono : ∀ q o, Ok o → Ok (q :: o)) (hz : xs.length ≤ 1000000)
    {p : Value → Bool} {f : Value → Value} {k : Nat} (hk : k ≤ s.toks)
    (ht : ∀ C extra, FmOk W (F.cm scope cl C extra) → ∀ v ∈ xs, CmTest W (F.cm scope cl C extra) (cmL x (some v) frees) ob ifs (p v))
    (he : ∀ C extra, FmOk W (F.cm scope cl C extra) → ∀ v ∈ xs, p v = true → CmEltK W (F.cm scope cl C extra) k (cmL x (some v) frees) ob elt (f v))
    {I : Addr} {o : Obj} (hit : It 0 o) (R : Rep F ⟨lc, (I, .raw o) :: ob⟩ s m news) {RR : Value → Addr → Result → Shared → Prop}
    (hRR : ∀ D C oC mC s' m' news', Rep (F.wr [(C, oC)]) ⟨lc, (D, .list ((xs.filter p).map f)) :: ob⟩ s' m' news' → (∀ h : Heap, h.get? C = some oC → h.Ns C mC) → RR (.ref D) C (.ok .next) s') :
    wpAny (model W.prog W.w) F.A (newList []) (fun acc s₃ => wpAny (model W.prog W.w) F.A (newFunctionEnv scope F.env.globals cl [] F.env.qual none .none (some F.env)) (fun cenv s₄ =>
      codeAny (model W.prog W.w) F.A (.compStart (.ListComp elt [⟨.Name x px, iter, ifs, 0⟩] scope pos) 0 (.ref I) acc { cenv with scope := relabel scope F.env }) (RR acc cenv.locals) s₄) E s₃) E s := by
  refine newList_N R.fr R.nw (fun h' F' N' => ?_) (by rw [sizeLine_eq]; decide)
  generalize hD : s.heap.objs.size = D at F' N'
  have R₁ : Rep F ⟨lc, (D, .list []) :: (I, .raw o) :: ob⟩ { s with heap := h', toks := s.toks } m ((D, { cls := .type "list", data := .seq ([] : List Value).toArray }) :: news) :=
    R.add (add := [_]) F' N' (by simp [AO.addrs]) (fun b hb o => fresh_size R (by simp only [AO.addrs, List.mem_singleton] at hb; exact hb ▸ Nat.le_of_eq hD) o) ⟨#[], 0, List.mem_cons_self .., rfl⟩
  have R₁ : Rep F ⟨lc, (I, .raw o) :: (D, .list []) :: ob⟩ { s with heap := h', toks := s.toks } m ((D, { cls := .type "list", data := .seq ([] : List Value).toArray }) :: news) :=
    Rep.keep (junk := []) R₁ (by rw [List.append_nil]; exact .swap ..)
  refine wpAny_newFunctionEnv hncell (by intro y hy; simp at hy) (fun h₁ hns₁ hsb₁ => ?_) K.kind
  obtain ⟨extra, oL, R₂, back⟩ := R₁.enter O.hk K e2 e3 hns₁ hsb₁ s.toks
  generalize hC : (Shared.heap { s with heap := h', toks := s.toks }).objs.size = C at R₂ back hns₁ hsb₁
  have hC' : h'.objs.size = C := hC
  have OG : FmOk W (F.cm scope cl C extra) := O.cm K.kind cl C extra
  have hxG : (F.cm scope cl C extra).env.kindOf x = some .local := relabel_local K.hx
  show codeAny _ _ (.compStart _ 0 (.ref I) (.ref D) (compEnvC scope cl C F.env)) (RR (.ref D) C) _
  have loop : ∀ s₃ m₃ n₃, Rep (F.cm scope cl C extra) ⟨cmL x none frees, (I, .raw o) :: (D, .list []) :: ob⟩ s₃ m₃ n₃ → k ≤ s₃.toks →
      codeAny (model W.prog W.w) F.A (.compLoop (.ListComp elt [⟨.Name x px, iter, ifs, 0⟩] scope pos) 0 (.ref I) (.ref D) (compEnvC scope cl C F.env)) (RR (.ref D) C) s₃ := fun s₃ m₃ n₃ R₃ k₃ => by
    refine codeAny_compLoop_tests (fun n s => ∃ i xv o m news, n = xs.length - i ∧ i ≤ xs.length ∧ It i o ∧ Rep (F.cm scope cl C extra) ⟨cmL x xv frees, (I, .raw o) :: (D, .list (((xs.take i).filter p).map f)) :: ob⟩ s m news ∧ k ≤ s.toks) (fun n s hI => ?_) _
      ⟨0, none, o, m₃, n₃, rfl, Nat.zero_le _, hit, R₃, k₃⟩
    obtain ⟨i, xv, o, m, news, rfl, hi, hit, R, k₀⟩ := hI
    rcases hv : xs[i]? with _ | v
    · have : i = xs.length := Nat.le_antisymm hi (by simpa using hv)
      subst this
      refine goE (S.done OG hit (hmono _ _ hok) s m news R) (fun r s' σ' m' n' qq R' => ?_)
      obtain ⟨q1, q2⟩ := qq
      subst q1 q2
      rw [List.take_length] at R'
      obtain ⟨oC, RC, mC, hCC⟩ := back _ _ _ _ R' (fun q hq => List.mem_cons_of_mem _ (List.mem_map.mpr ⟨q, hq, rfl⟩))
      exact hRR D C oC mC _ _ _ RC hCC
    · have hlt := (List.getElem?_eq_some_iff.mp hv).1
      have hmem := List.mem_of_getElem? hv
      have htake : xs.take (i + 1) = xs.take i ++ [v] := by rw [List.take_add_one, hv]; rfl
      refine goK k₀ (S.item OG hit hv (hmono _ _ hok) s m news R) (fun r s₄ σ₄ m₄ n₄ qq R₄ k₄ => ?_)
      obtain ⟨⟨rv, q1, q2⟩, o', hit', q3⟩ := qq
      subst q1 q3
      refine wpAny_assign_Name (goK k₄ (st_local OG (v := v) (l' := cmL x (some v) frees) (P := fun σ' => σ' = ⟨cmL x (some v) frees, (I, .raw o') :: (D, .list (((xs.take i).filter p).map f)) :: ob⟩) Put.head hxG rfl rv q2 s₄ m₄ n₄ R₄) (fun _ s₅ σ₅ m₅ n₅ e5 R₅ k₅ => ?_))
      subst e5
      have sub : ∀ q ∈ ob, q ∈ (I, AO.raw o') :: (D, AO.list (((xs.take i).filter p).map f)) :: ob := fun q hq => List.mem_cons_of_mem _ (List.mem_cons_of_mem _ hq)
      refine goK k₅ (Go.less (ht C extra OG v hmem _ _ sub) s₅ m₅ n₅ R₅) (fun ok s₆ σ₆ m₆ n₆ qq R₆ k₆ => ?_)
      obtain ⟨e6, e6'⟩ := qq
      subst e6 e6'
      cases hp : p v
      · rw [if_neg (by decide)]
        refine ⟨xs.length - (i + 1), by omega, i + 1, some v, o', m₆, n₆, rfl, hlt, hit', ?_, k₆⟩
        rw [htake, List.filter_append, List.filter_cons_of_neg (by rw [hp]; decide), List.filter_nil, List.append_nil]
        exact R₆
      · rw [if_pos rfl]
        refine goK k₆ (GoK.less (P := fun r σ' => nv r = f v ∧ σ' = ⟨cmL x (some v) frees, (I, .raw o') :: (D, .list (((xs.take i).filter p).map f)) :: ob⟩) (he C extra OG v hmem hp _ _ sub) s₆ m₆ n₆ R₆ k₆) (fun y s₇ σ₇ m₇ n₇ qq R₇ k₇ => ?_)
        obtain ⟨e7, e7'⟩ := qq
        subst e7'
        have hlen : (((xs.take i).filter p).map f).length ≤ 1000000 := by
          rw [List.length_map]
          have := List.length_filter_le p (xs.take i)
          rw [List.length_take] at this
          omega
        refine goK k₇ (f_append (W := W) (F := F.cm scope cl C extra) (lc := cmL x (some v) frees) (v := f v) (P := fun _ σ' => σ' = ⟨cmL x (some v) frees, (I, .raw o') :: (D, .list (((xs.take i).filter p).map f ++ [f v])) :: ob⟩) (PutO.tail PutO.head) hlen rfl (.builtin "list.append") [.ref D, y] [] rfl (by rw [List.map_cons, List.map_cons, e7]; rfl) rfl s₇ m₇ n₇ R₇) (fun _ s₈ σ₈ m₈ n₈ e8 R₈ k₈ => ?_)
        subst e8
        refine ⟨xs.length - (i + 1), by omega, i + 1, some v, o', m₈, n₈, rfl, hlt, hit', ?_, k₈⟩
        rw [htake, List.filter_append, List.filter_cons_of_pos hp, List.filter_nil, List.map_append]
        exact R₈
  refine codeAny_compStart_list (loop _ _ _ R₂ hk) ?_
  refine goK hk (S.self OG hit _ _ _ R₂) (fun r s₃ σ₃ m₃ n₃ qq R₃ k₃ => ?_)
  obtain ⟨q1, q2⟩ := qq
  subst q1 q2
  exact loop _ _ _ R₃ k₃

theorem Rep.unC {C : Addr} {oC : Obj} (R : Rep (F.wr [(C, oC)]) σ s m news) {h' : Heap} (hs : Heap.SameBut C s.heap h') : Rep F σ { s with heap := h' } m (drop C news) := by
  have hCr : C ∈ (F.rest ++ [(C, oC)]).map (·.1) := by simp
  have hm : (C, oC) ∈ news := R.rst _ (by simp [Fm.wr])
  have hq := R.nw _ hm
  have A1 : (F.env.cells.map (·.2) ++ (addrsOf σ.obj ++ (F.rest ++ [(C, oC)]).map (·.1))).Nodup := R.apart
  have A2 := List.nodup_append.mp A1
  have A3 := List.nodup_append.mp A2.2.1
  rw [List.map_append, List.map_cons, List.map_nil] at A3
  have A4 := List.nodup_append.mp A3.2.1
  have kc : ∀ p ∈ F.env.cells, p.2 ≠ C := fun p hp e => A2.2.2 p.2 (List.mem_map_of_mem hp) C (List.mem_append_right _ hCr) e
  refine ⟨⟨fun y v hy => (R.loc y v hy).to fun c o hc ho => mem_drop ho (kc (y, c) (mem_of_lookup hc)), R.knd, R.nod, fun p hp => ?_, fun p hp => (R.obj p hp).to fun q hq' hb => mem_drop hq' fun z => ?_, fun p hp => mem_drop (R.rst p (List.mem_append_left _ hp)) fun z => ?_, ?_⟩, ?_, fun p hp => ?_, R.bl, R.tn, R.bare, R.os⟩
  · obtain ⟨o, u, h1, h2⟩ := R.cel p hp
    exact ⟨o, u, mem_drop h1 (kc p hp), h2⟩
  · exact A3.2.2 _ (mem_addrsOf hp hb) C (by simp) z
  · exact A4.2.2 p.1 (List.mem_map_of_mem hp) C (by simp) z
  · refine A1.sublist ((List.Sublist.refl _).append ((List.Sublist.refl _).append ?_))
    rw [List.map_append]; exact List.sublist_append_left _ _
  · obtain ⟨oL, a1, a2, hL, a3⟩ := R.fr.ns
    refine ⟨⟨oL, a1, a2, (hs.2 _ fun e => hq.2.1 e.symm).trans hL, a3⟩, fun b x e => (hs.2 b fun z => ?_).trans (R.fr.keep b x e), R.fr.above⟩
    rw [z, hq.2.2] at e; cases e
  · obtain ⟨h1, h2⟩ := drop_mem hp
    exact ⟨(hs.2 _ h2).trans (R.nw p h1).1, (R.nw p h1).2⟩

theorem mem_of_look {β : Type} [BEq β] {y : Str} {b : β} : ∀ {l : List (Str × β)}, l.lookup y = some b → (y, b) ∈ l
  | (n, c) :: l, h => by
    rw [List.lookup_cons] at h
    split at h
    · rename_i q
      cases h
      rw [eq_of_beq q]; exact List.mem_cons_self ..
    · exact List.mem_cons_of_mem _ (mem_of_look h)
noncomputable def scopeOk (scope : Scope) (x : Str) (fr : List Str) : Bool :=
  scope.kind == .function && decide (scope.names.map (·.1)).Nodup && scope.names.lookup x == some .local && !(x == ("__debug__" : Str)) &&
  fr.all (fun y => scope.names.lookup y == some .free) && scope.names.all (fun p => p.2 != .free || fr.contains p.1) && decide (x :: fr).Nodup && scope.names.all (fun p => p.2 != .cell)
theorem cmOk_of {scope : Scope} {x : Str} {frees : Fl} (h : scopeOk scope x (frees.map (·.1)) = true) (hf : ∀ p ∈ frees, (p.1, some p.2) ∈ lc ∧ F.env.kindOf p.1 = some .cell) :
    CmOk F scope x lc frees ∧ ∀ y ∈ scope.names, y.2 ≠ .cell := by
  simp only [scopeOk, Bool.and_eq_true, beq_iff_eq, decide_eq_true_eq, Bool.not_eq_true', List.all_eq_true, Bool.or_eq_true, bne_iff_ne, ne_eq, List.contains_iff_mem] at h
  obtain ⟨⟨⟨⟨⟨⟨⟨h1, h2⟩, h3⟩, h4⟩, h5⟩, h6⟩, h7⟩, h8⟩ := h
  refine ⟨⟨h1, h2, h3, h4, fun p hp => ⟨(hf p hp).1, mem_of_look (h5 _ (List.mem_map_of_mem hp)), (hf p hp).2⟩, fun y hy => ?_, h7⟩, h8⟩
  rcases h6 _ hy with q | q
  · exact absurd rfl q
  · exact q

structure CmH (W : Wd) (F : Fm) (scope : Scope) (x : Str) (lc : Lc) (ob : List (Addr × AO)) (frees : Fl) (ifs : List Expr) (elt : Expr) (v : Value) (xs : List Value) (p : Value → Bool) (f : Value → Value) : Prop where
  ok : scopeOk scope x (frees.map (·.1)) = true
  fr : ∀ q ∈ frees, (q.1, some q.2) ∈ lc ∧ F.env.kindOf q.1 = some .cell
  it : ∃ Ok, Iters W v ob xs Ok ∧ ∀ q o, Ok o → Ok (q :: o)
  hz : xs.length ≤ 1000000
  ht : ∀ C extra cl, FmOk W (F.cm scope cl C extra) → ∀ v ∈ xs, CmTest W (F.cm scope cl C extra) (cmL x (some v) frees) ob ifs (p v)
  he : ∀ C extra cl, FmOk W (F.cm scope cl C extra) → ∀ v ∈ xs, p v = true → CmElt W (F.cm scope cl C extra) (cmL x (some v) frees) ob elt (f v)
theorem closure_of {scope : Scope} {x : Str} {fr : List Str} (hok : scopeOk scope x fr = true) (hfr : ∀ y ∈ fr, y ∈ lc.map (·.1) ∧ F.env.kindOf y = some .cell) (R : Rep F ⟨lc, ob⟩ s m news) :
    ∃ cl, closureFor scope F.env = pure cl ∧ cl.map (·.1) = ((scope.names.filter fun p => p.2 == .free).map (·.1)).reverse ∧ ∀ p ∈ cl, F.env.cells.lookup p.1 = some p.2 := by
  simp only [scopeOk, Bool.and_eq_true, beq_iff_eq, decide_eq_true_eq, Bool.not_eq_true', List.all_eq_true, Bool.or_eq_true, bne_iff_ne, ne_eq, List.contains_iff_mem] at hok
  obtain ⟨⟨⟨_, h6⟩, _⟩, _⟩ := hok
  refine closure_eq fun y hy => ?_
  rcases h6 _ hy with q | q
  · exact absurd rfl q
  · obtain ⟨h1, h2⟩ := hfr y q
    obtain ⟨p, hp, e⟩ := List.mem_map.mp h1
    rcases (R.knd p hp).1 with hl | ⟨_, hl⟩ | hl
    · rw [e, h2] at hl; cases hl
    · rw [e] at hl; exact Option.isSome_iff_exists.mp hl
    · rw [e, h2] at hl; cases hl
theorem hnames_of {scope : Scope} {x : Str} {fr : List Str} (hok : scopeOk scope x fr = true) : scope.kind = .function ∧ ∀ x ∈ scope.names, x.2 = .local → scope.names.lookup x.1 = some .local := by
  simp only [scopeOk, Bool.and_eq_true, beq_iff_eq, decide_eq_true_eq] at hok
  obtain ⟨⟨⟨⟨⟨⟨⟨h1, h2⟩, _⟩, _⟩, _⟩, _⟩, _⟩, _⟩ := hok
  exact ⟨h1, fun q hq e => look_nd h2 (by rw [← e]; exact hq)⟩
theorem v_comp (O : FmOk W F) {scope : Scope} {x : Str} {px pos : Pos} {elt iter : Expr} {ifs : List Expr} (frees : Fl) (xs : List Value) (p : Value → Bool) (f : Value → Value) {P : Value → AS → Prop}
    (hok : scopeOk scope x (frees.map (·.1)) = true) (hfr : ∀ y ∈ frees.map (·.1), y ∈ σ.loc.map (·.1) ∧ F.env.kindOf y = some .cell)
    (h : GoV W F E σ (eval iter F.env) fun v σ₁ => CmH W F scope x σ₁.loc σ₁.obj frees ifs elt v xs p f ∧ ∀ D, P (.ref D) ⟨σ₁.loc, (D, .list ((xs.filter p).map f)) :: σ₁.obj⟩)
    (hs : ∀ x, foldedSetIterable iter F.env x = pure x := by intro _; rfl) : GoV W F E σ (eval (.ListComp elt [⟨.Name x px, iter, ifs, 0⟩] scope pos) F.env) P := fun s m news R => by
  obtain ⟨cl, c1, c2, c3⟩ := closure_of (lc := σ.loc) (ob := σ.obj) hok hfr R
  rw [eval_ListComp]
  refine wpAny_comprehension_free (use := none) rfl hs c1 (hnames_of hok).1 (hnames_of hok).2 (goE (h s m news R) (fun xv s₁ σ₁ m₁ n₁ qq R₁ => ?_))
  obtain ⟨H, hP⟩ := qq
  obtain ⟨lc₁, ob₁⟩ := σ₁
  obtain ⟨Ok, hI, hmono⟩ := H.it
  obtain ⟨K, hnc⟩ := cmOk_of (F := F) (lc := lc₁) H.ok H.fr
  refine goE (hI.2 O rfl s₁ m₁ n₁ R₁) (fun it s₂ σ₂ m₂ n₂ qq R₂ => ?_)
  obtain ⟨I, o, It, q1, q2, hit, S⟩ := qq
  subst q1 q2
  refine comp_run O K hnc c2 c3 S hI.1 hmono H.hz (p := p) (f := f) (k := 0) (Nat.zero_le _) (fun C extra => H.ht C extra cl) (fun C extra OG v hv hp E' obs hs => (H.he C extra cl OG v hv hp E' obs hs).atK) hit R₂ fun D C oC mC s' m' n' RC hCC => ?_
  have hm : (C, oC) ∈ n' := RC.rst _ (by simp [Fm.wr])
  exact ⟨mC, hCC _ (RC.nw _ hm).1, fun h' hs' => ⟨_, m', _, hP D, RC.unC hs'⟩⟩
structure CmHS (W : Wd) (F : Fm) (scope : Scope) (x : Str) (lc : Lc) (ob : List (Addr × AO)) (frees : Fl) (ifs : List Expr) (elt : Expr) (v : Value) (xs : List Value) (p : Value → Bool) (f : Value → Value) : Prop where
  ok : scopeOk scope x (frees.map (·.1)) = true
  fr : ∀ q ∈ frees, (q.1, some q.2) ∈ lc ∧ F.env.kindOf q.1 = some .cell
  it : ∃ Ok, Iters W v ob xs Ok ∧ ∀ q o, Ok o → Ok (q :: o)
  hz : xs.length ≤ 1000000
  ht : ∀ C extra cl, FmOk W (F.cm scope cl C extra) → ∀ v ∈ xs, CmTest W (F.cm scope cl C extra) (cmL x (some v) frees) ob ifs (p v)
  he : ∀ C extra cl, FmOk W (F.cm scope cl C extra) → ∀ v ∈ xs, p v = true → CmEltK W (F.cm scope cl C extra) 1 (cmL x (some v) frees) ob elt (f v)
theorem v_compS (O : FmOk W F) {scope : Scope} {x : Str} {px pos : Pos} {elt iter : Expr} {ifs : List Expr} (hS : Strict (eval iter F.env)) (frees : Fl) (xs : List Value) (p : Value → Bool) (f : Value → Value) {P : Value → AS → Prop}
    (hok : scopeOk scope x (frees.map (·.1)) = true) (hfr : ∀ y ∈ frees.map (·.1), y ∈ σ.loc.map (·.1) ∧ F.env.kindOf y = some .cell)
    (h : GoV W F E σ (eval iter F.env) fun v σ₁ => CmHS W F scope x σ₁.loc σ₁.obj frees ifs elt v xs p f ∧ ∀ D, P (.ref D) ⟨σ₁.loc, (D, .list ((xs.filter p).map f)) :: σ₁.obj⟩)
    (hs : ∀ x, foldedSetIterable iter F.env x = pure x := by intro _; rfl) : GoV W F E σ (eval (.ListComp elt [⟨.Name x px, iter, ifs, 0⟩] scope pos) F.env) P := fun s m news R => by
  obtain ⟨cl, c1, c2, c3⟩ := closure_of (lc := σ.loc) (ob := σ.obj) hok hfr R
  rw [eval_ListComp]
  refine wpAny_comprehension_free (use := none) rfl hs c1 (hnames_of hok).1 (hnames_of hok).2 (wpAny_mono (hS.any (h s m news R)) (fun xv s₁ qq => ?_) fun _ _ e => e)
  obtain ⟨⟨σ₁, m₁, n₁, ⟨H, hP⟩, R₁⟩, k₁⟩ := qq
  obtain ⟨lc₁, ob₁⟩ := σ₁
  obtain ⟨Ok, hI, hmono⟩ := H.it
  obtain ⟨K, hnc⟩ := cmOk_of (F := F) (lc := lc₁) H.ok H.fr
  refine goK k₁ (hI.2 O rfl s₁ m₁ n₁ R₁) (fun it s₂ σ₂ m₂ n₂ qq R₂ k₂ => ?_)
  obtain ⟨I, o, It, q1, q2, hit, S⟩ := qq
  subst q1 q2
  refine comp_run O K hnc c2 c3 S hI.1 hmono H.hz (p := p) (f := f) k₂ (fun C extra => H.ht C extra cl) (fun C extra => H.he C extra cl) hit R₂ fun D C oC mC s' m' n' RC hCC => ?_
  have hm : (C, oC) ∈ n' := RC.rst _ (by simp [Fm.wr])
  exact ⟨mC, hCC _ (RC.nw _ hm).1, fun h' hs' => ⟨_, m', _, hP D, RC.unC hs'⟩⟩
theorem s_comp (O : FmOk W F) (Cc : CallOk F) {scope : Scope} {x y : Str} {px pos py spos : Pos} {elt iter : Expr} {ifs : List Expr} (frees : Fl) (xs : List Value) (p : Value → Bool) (f : Value → Value) {P : Flow → AS → Prop}
    (hsw : swapsWith (.ListComp elt [⟨.Name x px, iter, ifs, 0⟩] scope pos) (some (.Name y py)) spos.line F.env = pure true)
    (hok : scopeOk scope x (frees.map (·.1)) = true) (hfr : ∀ y ∈ frees.map (·.1), y ∈ σ.loc.map (·.1) ∧ F.env.kindOf y = some .cell)
    (h : GoV W F E σ (eval iter F.env) fun v σ₁ => CmH W F scope x σ₁.loc σ₁.obj frees ifs elt v xs p f ∧ ∀ D, Asg y (.ref D) (P .next) ⟨σ₁.loc, (D, .list ((xs.filter p).map f)) :: σ₁.obj⟩)
    (hs : ∀ x, foldedSetIterable iter F.env x = pure x := by intro _; rfl) : GoF W F E σ (exec (.Assign [.Name y py] (.ListComp elt [⟨.Name x px, iter, ifs, 0⟩] scope pos) spos) F.env) P := fun s m news R => by
  obtain ⟨cl, c1, c2, c3⟩ := closure_of (lc := σ.loc) (ob := σ.obj) hok hfr R
  rw [exec_Assign_Name_used _ _ _ _ hsw]
  refine wpAny_bind (wpAny_standAt (wpAny_bind ?_))
  show wpAny _ F.A (do let _ ← comprehension (.ListComp elt [⟨.Name x px, iter, ifs, 0⟩] scope pos) scope F.env _ (newList []) false (eval iter F.env) (some (assign (.Name y py) F.env))) _ _ s
  refine wpAny_bind (wpAny_mono (wpAny_comprehension_free (use := some (assign (.Name y py) F.env)) (Q := fun _ s' => ∃ σ' m' news', P .next σ' ∧ Rep F σ' s' m' news') rfl hs c1 (hnames_of hok).1 (hnames_of hok).2
    (goE (h s m news R) (fun xv s₁ σ₁ m₁ n₁ qq R₁ => ?_))) (fun _ s' hq => wpAny_pure (wpAny_pure hq)) fun _ _ e => e)
  obtain ⟨H, hP⟩ := qq
  obtain ⟨lc₁, ob₁⟩ := σ₁
  obtain ⟨Ok, hI, hmono⟩ := H.it
  obtain ⟨K, hnc⟩ := cmOk_of (F := F) (lc := lc₁) H.ok H.fr
  refine goE (hI.2 O rfl s₁ m₁ n₁ R₁) (fun it s₂ σ₂ m₂ n₂ qq R₂ => ?_)
  obtain ⟨I, o, It, q1, q2, hit, S⟩ := qq
  subst q1 q2
  refine comp_run O K hnc c2 c3 S hI.1 hmono H.hz (p := p) (f := f) (k := 0) (Nat.zero_le _) (fun C extra => H.ht C extra cl) (fun C extra OG v hv hp E' obs hs => (H.he C extra cl OG v hv hp E' obs hs).atK) hit R₂ fun D C oC mC s' m' n' RC hCC => ?_
  obtain ⟨l', U, hP'⟩ := hP D
  show wpAny _ F.A (assign (.Name y py) F.env (.ref D)) _ _ _
  refine wpAny_assign_Name (goE (st_name (E := E) (O.wr [(C, oC)]) (Cc.wr [(C, oC)]) (v := .ref D) U (P := fun σ' => σ' = ⟨l', (D, .list ((xs.filter p).map f)) :: ob₁⟩) rfl (.ref D) rfl s' m' n' RC) (fun _ s'' σ'' m'' n'' e'' R'' => ?_))
  subst e''
  have hm : (C, oC) ∈ n'' := R''.rst _ (by simp [Fm.wr])
  exact ⟨mC, hCC _ (R''.nw _ hm).1, fun h' hs' => ⟨_, m'', _, hP', R''.unC hs'⟩⟩
end

end
/-! text M31 -/
section
open PySem.Builtin

section
variable {W : Wd} {F : Fm} {E : Value → Shared → Prop} {σ : AS} {lc : Lc} {ob ob' : List (Addr × AO)} {s : Shared} {m : Mp} {news : List (Addr × Obj)}

/-! ValueError raised, and caught -/
theorem s_raise_ve (O : FmOk W F) {gl : Fl} (G : Globs W F gl) {np cpos pos : Pos} {e₀ : Expr} {P : Flow → AS → Prop} (hm : (("ValueError" : Str), Value.type "ValueError") ∈ gl) (h : GoV W F E σ (eval e₀ F.env) fun _ σ₁ => ∀ e s', Fly F (.type "ValueError") σ₁ e s' → E e s')
    (he : starEach [e₀] F.env = (false, eval e₀ F.env) :: starEach [] F.env := by rfl) :
    GoF W F E σ (exec (.Raise (some (.Call (.Name "ValueError" np) [e₀] [] cpos)) none pos) F.env) P := fun s m news R => by
  refine Raise_madeB PySem.F.excCall_ValueError PySem.F.excRaise_ValueError O.hh (goE (n_glob (E := E) O G hm (P := fun v σ' => v = .type "ValueError" ∧ σ' = σ) ⟨rfl, rfl⟩ s m news R) fun v s₁ σ₁ m₁ n₁ qq R₁ => ?_) he rfl
  obtain ⟨hv, e1⟩ := qq
  subst e1
  refine ⟨nv_type hv, goE (a_cons (pos := cpos) (as := []) (P := fun vs σ' => vs.length = 1 ∧ ∀ e s', Fly F (.type "ValueError") σ' e s' → E e s') (h.mono fun a σ₁ h₁ => a_nil ⟨rfl, h₁⟩) he s₁ m₁ n₁ R₁) fun vs s₂ σ₂ m₂ n₂ qq R₂ => ?_⟩
  obtain ⟨hl, hE⟩ := qq
  rw [List.length_map] at hl
  refine ⟨by rw [hl, sizeLine_eq]; decide, fun h' e hx => hE _ _ (.made R₂ hx.of R₂.bare R₂.os)⟩
noncomputable def Fm.hdl (F : Fm) (e : Value) : Fm := { F with A := F.A.mark (some e) }
theorem Rep.hdl (R : Rep F σ s m news) (e : Value) : Rep (F.hdl e) σ s m news := ⟨⟨R.loc, R.knd, R.nod, R.cel, R.obj, R.rst, R.apart⟩, R.fr, R.nw, R.bl, R.tn, R.bare, R.os⟩
theorem Rep.unmk {e : Value} (R : Rep (F.hdl e) σ s m news) : Rep F σ s m news := ⟨⟨R.loc, R.knd, R.nod, R.cel, R.obj, R.rst, R.apart⟩, R.fr, R.nw, R.bl, R.tn, R.bare, R.os⟩
theorem ve_exc : isSubtype (.type "ValueError") (.type "BaseException") = pure true := by rw [isSubtype_type]; kernel_rfl
theorem ve_tup : isSubtype (.type ((Manifest.find? "ValueError").elim "type" fun x => x.metatype)) (.type "tuple") = pure false := by rw [isSubtype_type]; kernel_rfl
theorem ve_self : isSubtype (.type "ValueError") (.type "ValueError") = pure true := by rw [isSubtype_type]; kernel_rfl
theorem s_try (O : FmOk W F) (C : CallOk F) (own : ∀ hd, PassesOwnAt (model W.prog W.w) (F.A.mark hd) F.A F.env E) {body : List Stmt} {b₀ : Stmt} {suite : List Stmt} {np hp pos : Pos} {P : Flow → AS → Prop} (ex : nsIn W.K mainGlobals "ValueError" = some none) (hk : F.env.kindOf "ValueError" = some .globalImplicit)
    (h : GoF W F (fun e s' => ∃ σ₁, Exc F (.type "ValueError") σ₁ e s' ∧ ∀ ea, GoF W (F.hdl (.ref ea)) E σ₁ (execs (b₀ :: suite) F.env) P) σ (execs body F.env) P) :
    GoF W F E σ (exec (.Try body [.ExceptHandler (some (.Name "ValueError" np)) none (b₀ :: suite) hp] [] [] pos) F.env) P := fun s m news R => by
  refine wpAny_Try_except (wpAny_mono (h s m news R) (fun f s₁ hf => ?_) fun e s₁ he => ?_)
  · cases f with
    | next => exact wpAny_execs_nil hf
    | brk => exact hf
    | cont => exact hf
    | ret v => exact hf
  obtain ⟨σ₁, hx, hh⟩ := he
  obtain ⟨ea, m₁, g', n₁, rfl, ⟨B, a0, hB, hBG, hl, hfl⟩, hF, hsm, hK, hT, hL, hb, ho⟩ := hx
  have e : (F.env :: F.outer).filterMap (·.frame) = (envOf "" F.env.scope F.env.locals 0 .none :: F.outer).filterMap (·.frame) := by
    simp [C.hf, show (envOf "" F.env.scope F.env.locals 0 .none).frame = some F.env.locals from rfl]
  have hBG' : ∀ b o, g'.get? b = some o → b ∉ (envOf "" F.env.scope F.env.locals 0 .none :: F.outer).filterMap (·.frame) → B.get? b = some o := fun b o hb nm => hBG b o hb (by rw [e]; exact nm)
  have hLn : B.get? F.env.locals = none := by
    obtain ⟨_, ⟨L', _, hf, hn', _⟩, _⟩ := hfl.2.2.1
    obtain rfl : F.env.locals = L' := Option.some.inj (C.hf.symm.trans hf)
    exact hn'
  refine wpAny_looks_onW C.fr C.hf hfl fun h₄ hheld₄ hsm₄ => ?_
  refine wpAny_landsW hheld₄ fun h₅ hheld hsm₅ => ?_
  obtain ⟨g₅, T₅, F₅, K₅⟩ := kts_ground hK hF hBG' hheld.1 (hsm.trans (hsm₄.trans hsm₅))
  have P₅ : TopRead W.p W.loose W.mg W.mb g₅ := O.T.keeps K₅.stays
  obtain ⟨ob, hob, hobc⟩ := hheld.there
  refine wpAny_handleBy_builtin (X := "ValueError") (T := "ValueError") (b := true) ve_exc ve_tup ve_self ?_
  refine Name_function_global O.hk hk (loadGlobal_builtin (env := F.env) (by rw [O.hg]; exact P₅.g.keeps F₅.keep) (mg_none_of (O.X.keeps K₅.stays) P₅.g ex) (by rw [O.hb]; exact P₅.b.keeps F₅.keep) ((P₅.builtins "ValueError" (by decide)).trans (show bootBuiltins "ValueError" = some (.type "ValueError") by kernel_rfl)) ⟨rfl, ⟨ob, hob, hobc⟩, ?_⟩) (by decide)
  refine lands_againW hheld fun h₆ hfl₆ hsm₆ => ?_
  obtain ⟨g₆, T₆, F₆, K₆⟩ := kts_ground hK hF hBG' hfl₆.1 ((hsm.trans (hsm₄.trans hsm₅)).trans hsm₆)
  have Nl : News g₆ F.env.locals h₆ n₁ := fun q hq => ⟨hfl₆.1 _ _ (hl q hq).1, (fun z => by have := (hl q hq).1; rw [z, hLn] at this; cases this), T₆.none_ _ (kts_none hF.keep (hl q hq).2.1)⟩
  refine wpAny_passesOwnAt (own _) (wpAny_mono (hh ea { s₁ with heap := h₆ } ⟨m₁.m, g₆⟩ n₁ (Rep.hdl (F := F) (m := ⟨m₁.m, g₆⟩) (s := { s₁ with heap := h₆ }) ⟨hL, F₆, Nl, K₆, hT.trans T₆, hb, ho⟩ _)) (fun f s₂ q => ?_) fun _ _ e => e)
  obtain ⟨σ₂, m₂, n₂, hP, R₂⟩ := q
  exact ⟨σ₂, m₂, n₂, hP, R₂.unmk⟩
theorem n_loc' (hkf : F.env.scope.kind = .function) {x : Str} {pos : Pos} {v : Value} {P : Value → AS → Prop} (hx : (x, some v) ∈ σ.loc) (h : P v σ) :
    GoV W F E σ (eval (.Name x pos) F.env) P := fun s m news R => by
  have hd := (R.knd _ hx).2
  rcases R.loc x v hx with ⟨hl, u, hu, rfl⟩ | ⟨hl, c, o, u, hc, ho, hod, rfl⟩
  · exact wpAny_Name (wpAny_loadName_local hkf hl R.fr.ns hu ⟨σ, m, news, h, R⟩) hd
  · rcases hl with hl | ⟨hl, hn⟩
    · exact wpAny_Name (wpAny_loadName_cell hkf hl hc ⟨o, (R.nw _ ho).1, hod⟩ ⟨σ, m, news, h, R⟩) hd
    · exact wpAny_Name (wpAny_loadName_free hkf hl hc ⟨o, (R.nw _ ho).1, hod⟩ ⟨σ, m, news, h, R⟩ hn) hd

theorem s_consK {k : Nat} {st rest} {P : Flow → AS → Prop} (h : GoFK W F E k σ (exec st F.env) (Nx W F E rest P)) : GoFK W F E k σ (execs (st :: rest) F.env) P := fun s m news R hk => by
  refine wpAny_execs_cons (goE (h s m news R hk) (fun f s₁ σ₁ m₁ n₁ h₁ R₁ => ?_))
  cases f with
  | next => exact h₁ s₁ m₁ n₁ R₁
  | brk => exact ⟨σ₁, m₁, n₁, h₁, R₁⟩
  | cont => exact ⟨σ₁, m₁, n₁, h₁, R₁⟩
  | ret v => exact ⟨σ₁, m₁, n₁, h₁, R₁⟩
/-! str.replace of two texts spelt out -/
theorem v_replaceK {e : Expr} {ap pos p1 p2 : Pos} {k1 k2 : Nat} {y z : Str} {P : Value → AS → Prop} (hyz : (y == z) = false)
    (h : GoV W F E σ (eval e F.env) fun o σ₁ => ∃ x, o = .str x 0 ∧ x.length + (x.length + 1) * z.length ≤ 16777216 ∧ P (.str (Txt.replace x y z) 0) σ₁) (pl : Sem Bool)
    (he : eval (.Call (.Attribute e "replace" ap) [.Constant (.str y) k1 p1, .Constant (.str z) k2 p2] [] pos) F.env = (do
      let ov ← eval e F.env
      standAt ap.atName
      let (f, first) ← holding [ov] (getMethod ov "replace" pl)
      callWith pos f first (backTo pos (starEach [.Constant (.str y) k1 p1, .Constant (.str z) k2 p2] F.env)) (backToKw pos (keywordEach [] F.env)))) :
    GoVK W F E 1 σ (eval (.Call (.Attribute e "replace" ap) [.Constant (.str y) k1 p1, .Constant (.str z) k2 p2] [] pos) F.env) P := fun s m news R hk => by
  refine methodCall_KW (pl := pl) (goK hk (h s m news R) fun ov s₁ σ₁ m₁ n₁ qq R₁ k₁ => ?_) he
  obtain ⟨x, ho, hb, hP⟩ := qq
  obtain ⟨t, rfl⟩ := nv_str ho
  refine getMethod_builtin (typeIs_str s₁ x t) PySem.F.plainAttrs_str PySem.F.slot_str_replace PySem.F.type_str_replace (fun _ e => nomatch e) ?_
  refine callWith_of (P := fun _ => True) rfl (fun _ _ => ⟨.machine, .inr (.inl rfl), Looks.of_pure rfl⟩) (evalArgs_plain ?_)
  refine wpAny_items_cons (wpAny_Constant_str ?_) rfl
  refine wpAny_items_cons (wpAny_Constant_str ?_) rfl
  refine wpAny_items_nil ⟨trivial, ?_⟩
  refine SC.replace (Nat.ne_of_gt k₁) (Nat.succ_ne_zero _) (Nat.ne_of_lt (Nat.lt_succ_self _)) hyz hb fun t' k => ⟨σ₁, m₁, n₁, hP, R₁.tok _⟩
theorem v_binS {l r : Expr} {op : Operator} {pos : Pos} {P : Value → AS → Prop} (hS : Strict (eval l F.env)) (h : GoV W F E σ (eval l F.env) fun a σ₁ => GoVK W F E 1 σ₁ (eval r F.env) (kOp2 W F E (binaryOp op) P a)) :
    GoV W F E σ (eval (.BinOp l op r pos) F.env) P := fun s m news R =>
  wpAny_BinOp (wpAny_mono (hS.any (h s m news R)) (fun a s₁ ⟨⟨σ₁, m₁, n₁, h₁, R₁⟩, k₁⟩ => goE (h₁ s₁ m₁ n₁ R₁ k₁) (fun b s₂ σ₂ m₂ n₂ h₂ R₂ => h₂ a b rfl rfl s₂ m₂ n₂ R₂)) fun _ _ e => e)

/-! l[i] = v -/
theorem Rep.setAt (R : Rep F σ s m news) {l : Addr} {xs : List Value} {v : Value} {k : Int} {t : Tok} (U : PutO l (.list xs) (.list (xs.set k.toNat (nv v))) σ.obj ob') (h0 : 0 ≤ k) (hlt : k < xs.length) (hz : xs.length ≤ 1000000) {A : Around} {Q : Unit → Shared → Prop}
    (h : ∀ s' m' n', Rep F ⟨σ.loc, ob'⟩ s' m' n' → Q () s') : wpAny (model W.prog W.w) A (setItem (.ref l) (.int k t) v) Q E s := by
  obtain ⟨vs, n, hm, hv⟩ := R.obj (l, .list xs) U.mem
  have hg := (R.nw _ hm).1
  have hsz : vs.size = xs.length := by have := congrArg List.length hv; simpa using this
  have hl : s.heap.IsList l vs := ⟨_, hg, rfl, n, rfl⟩
  unfold setItem
  try with_reducible refine wpAny_holding ?_
  first | refine wpAny_bind (wpAny_pure ?_) | skip
  refine wpAny_bind (wpAny_sequenceKey hl.typeIs (by decide) ?_)
  refine wpAny_bind (wpAny_callSpecial?_slot (name := Str.ofString "__setitem__") hl.typeIs slot_list_setitem
    (wpAny_call_entry slot_list_setitem hl.typeIs entry_list_setitem ?_ (args_list_setitem _ _ _)))
  show wpAny _ _ (Builtin.List.listSubscript? (.int k t) >>= _) _ _ s
  refine wpAny_bind (wpAny_listSubscript_int (fitsIndex_of h0 (by omega)) ?_)
  obtain ⟨j, rfl⟩ := Int.eq_ofNat_of_zero_le h0
  have hj : j < vs.size := by omega
  show wpAny _ _ ((seqItemAt l j >>= fun r => pure (r.map (j, ·))) >>= _) _ _ s
  refine wpAny_bind (wpAny_bind (wpAny_seqItemAt hg rfl (wpAny_pure ?_)))
  rw [Array.getElem?_eq_getElem hj]
  show wpAny _ _ (setSeqItemAt l j v >>= _) _ _ s
  obtain ⟨news', R'⟩ := R.setList (f := (·.setIfInBounds j v)) U hm (by
    rw [Array.toList_setIfInBounds, List.map_set, hv]; rfl) s.toks
  refine wpAny_bind (wpAny_setSeqItemAt hg rfl ?_)
  first
    | exact wpAny_bind (wpAny_pure (wpAny_pure ⟨.none, rfl, wpAny_pure (h _ _ _ R')⟩))
    | exact wpAny_pure ⟨.none, rfl, wpAny_pure (h _ _ _ R')⟩
theorem s_setsubK {k : Nat} {e oe ie : Expr} {tp pos : Pos} {P : Flow → AS → Prop}
    (h : GoVK W F E k σ (eval e F.env) fun v σ₁ => GoV W F E σ₁ (eval oe F.env) fun o σ₂ => GoV W F E σ₂ (eval ie F.env) fun i σ₃ =>
      ∃ l xs j ob', o = .ref l ∧ i = .int j 0 ∧ PutO l (.list xs) (.list (xs.set j.toNat v)) σ₃.obj ob' ∧ 0 ≤ j ∧ j < xs.length ∧ xs.length ≤ 1000000 ∧ P .next ⟨σ₃.loc, ob'⟩)
    (hs : swapsWith e (some (.Subscript oe ie tp)) pos.line F.env = pure false := by rfl) : GoFK W F E k σ (exec (.Assign [.Subscript oe ie tp] e pos) F.env) P := fun s m news R hk =>
  wpAny_Assign_Subscript (goE (h s m news R hk) fun v s₁ σ₁ m₁ n₁ h₁ R₁ => goE (h₁ s₁ m₁ n₁ R₁) fun o s₂ σ₂ m₂ n₂ h₂ R₂ => goE (h₂ s₂ m₂ n₂ R₂) fun i s₃ σ₃ m₃ n₃ qq R₃ => by
    obtain ⟨l, xs, j, ob', ho, hi, U, h0, h1, h2, hP⟩ := qq
    obtain rfl := nv_ref ho
    obtain ⟨t, rfl⟩ := nv_int hi
    exact R₃.setAt U h0 h1 h2 fun s' m' n' R' => ⟨_, m', n', hP, R'⟩) hs
end

end
/-! text KH1 -/
section
noncomputable def nthS : List Stmt → Nat → Stmt
  | [], _ => .Pass ⟨0, 0, 0, 0⟩
  | s :: _, 0 => s
  | _ :: r, n + 1 => nthS r n
noncomputable def clsB : Stmt → List Stmt
  | .ClassDef _ _ _ b _ _ _ _ _ _ _ => b
  | _ => []
noncomputable abbrev st1 (i : Nat) : Stmt := nthS PySem.Challenge.pw_ik0062_01.main.body i
noncomputable abbrev st2 (i j : Nat) : Stmt := nthS (clsB (st1 i)) j
noncomputable abbrev mkF {n : Str} {a : Arguments} {b : List Stmt} {dl : List PySem.Expr} {r : Option PySem.Expr} {tp : List TypeParam} {sc : Scope} {ts : Option Scope} {bi : Str} {p : Pos} (st : Stmt) (h : st = .FunctionDef n a b dl r tp sc ts bi p) (q : Str) (dv kv mod : Value) (c : Addr) : Obj :=
  ⟨.type "function", none, .func ⟨n, q, a, .stmts b, sc, 3, [], dv, kv, .none, mod, none, .ref c, .none, 0⟩, #[]⟩
noncomputable def KH : Params → Frag := fun P => [
  (2,⟨.none,none,(.dict #[⟨(PyData.keyHash P ⟨#[105,109,112,111,114,116,46,108,111,97,100,101,100,46,95,115,114,101]⟩),(.str ⟨#[105,109,112,111,114,116,46,108,111,97,100,101,100,46,95,115,114,101]⟩ 183),(.bool true)⟩,⟨(PyData.keyHash P "class._frozen_importlib.BuiltinImporter"),(.str "class._frozen_importlib.BuiltinImporter" 185),(.ref 14)⟩,⟨(PyData.keyHash P ⟨#[119,97,116,99,104,101,100,46,105,109,112,111,114,116]⟩),(.str ⟨#[119,97,116,99,104,101,100,46,105,109,112,111,114,116]⟩ 206),(.ref 18)⟩,⟨(PyData.keyHash P "class._frozen_importlib.ModuleSpec"),(.str "class._frozen_importlib.ModuleSpec" 216),(.ref 22)⟩,⟨(PyData.keyHash P "sys.modules.booked-epoch"),(.str "sys.modules.booked-epoch" 245),(.int 4 0)⟩,⟨(PyData.keyHash P ⟨#[105,109,112,111,114,116,46,108,97,116,101,114,45,108,97,105,100,46,95,115,114,101]⟩),(.str ⟨#[105,109,112,111,114,116,46,108,97,116,101,114,45,108,97,105,100,46,95,115,114,101]⟩ 270),(.bool true)⟩,⟨(PyData.keyHash P "watched.library"),(.str "watched.library" 272),(.ref 27)⟩,⟨(PyData.keyHash P "watched.library-objects"),(.str "watched.library-objects" 0),(.str "\x0c\x1e" 0)⟩,⟨(PyData.keyHash P "watched.library-deep._sre"),(.str "watched.library-deep._sre" 273),(.str "\x04\x00\x00\x0b\x04\x00\x00\x0b\x04\x00\x00\x03\x04\x00\x00\x0b\x08\x04dict\x02" 0)⟩,⟨(PyData.keyHash P ⟨#[105,109,112,111,114,116,46,108,111,97,100,101,100,46,95,99,111,108,108,101,99,116,105,111,110,115]⟩),(.str ⟨#[105,109,112,111,114,116,46,108,111,97,100,101,100,46,95,99,111,108,108,101,99,116,105,111,110,115]⟩ 280),(.bool true)⟩,⟨(PyData.keyHash P "sys.modules.landed._collections"),(.str "sys.modules.landed._collections" 294),(.bool true)⟩,⟨(PyData.keyHash P ⟨#[105,109,112,111,114,116,46,108,97,116,101,114,45,108,97,105,100,46,95,99,111,108,108,101,99,116,105,111,110,115]⟩),(.str ⟨#[105,109,112,111,114,116,46,108,97,116,101,114,45,108,97,105,100,46,95,99,111,108,108,101,99,116,105,111,110,115]⟩ 309),(.bool true)⟩,⟨(PyData.keyHash P "watched.library-deep._collections"),(.str "watched.library-deep._collections" 311),(.str "\x04\x00\x00\x1d\x04\x00\x00\x1d\x04\x00\x00\x03\x04\x00\x00\x1d\x08\x04dict\x02" 0)⟩,⟨(PyData.keyHash P "type.__subclasses__.OSError.0"),(.str "type.__subclasses__.OSError.0" 514),(.int 147 0)⟩,⟨(PyData.keyHash P "type.__subclasses__.OSError.n"),(.str "type.__subclasses__.OSError.n" 515),(.int 1 0)⟩] 15),#[]⟩),
  (3,⟨(.type "dict"),none,(.dict #[⟨(PyData.keyHash P "__name__"),(.str "__name__" 165),(.str "law_ik0062_01" 1362)⟩,⟨(PyData.keyHash P "__doc__"),(.str "__doc__" 166),.none⟩,⟨(PyData.keyHash P "__package__"),(.str "__package__" 167),.none⟩,⟨(PyData.keyHash P "__loader__"),(.str "__loader__" 168),(.builtin "__main__.__loader__#opaque")⟩,⟨(PyData.keyHash P "__spec__"),(.str "__spec__" 169),.none⟩,⟨(PyData.keyHash P "__annotations__"),(.str "__annotations__" 170),(.ref 6)⟩,⟨(PyData.keyHash P "__builtins__"),(.str "__builtins__" 171),(.ref 4)⟩,⟨(PyData.keyHash P "__file__"),(.str "__file__" 173),(.str "/claim/cut.py" 172)⟩,⟨(PyData.keyHash P "__cached__"),(.str "__cached__" 174),.none⟩,⟨(PyData.keyHash P "_sre"),(.str "_sre" 275),(.ref 12)⟩,⟨(PyData.keyHash P "deque"),(.str "deque" 317),(.type "collections.deque")⟩,⟨(PyData.keyHash P "_wall"),(.str "_wall" 330),(.ref 44)⟩,⟨(PyData.keyHash P "filterfalse"),(.str "filterfalse" 382),(.ref 77)⟩,⟨(PyData.keyHash P "_filter"),(.str "_filter" 392),(.ref 88)⟩,⟨(PyData.keyHash P "_buffer"),(.str "_buffer" 402),(.ref 95)⟩,⟨(PyData.keyHash P "_truth"),(.str "_truth" 410),(.ref 102)⟩,⟨(PyData.keyHash P "_B64"),(.str "_B64" 412),(.bytes #[65,66,67,68,69,70,71,72,73,74,75,76,77,78,79,80,81,82,83,84,85,86,87,88,89,90,97,98,99,100,101,102,103,104,105,106,107,108,109,110,111,112,113,114,115,116,117,118,119,120,121,122,48,49,50,51,52,53,54,55,56,57,43,47] 411)⟩,⟨(PyData.keyHash P "b2a_base64"),(.str "b2a_base64" 426),(.ref 110)⟩,⟨(PyData.keyHash P "b64encode"),(.str "b64encode" 437),(.ref 118)⟩,⟨(PyData.keyHash P "_twin_re_1"),(.str "_twin_re_1" 477),(.ref 123)⟩,⟨(PyData.keyHash P "_whence"),(.str "_whence" 487),(.ref 130)⟩,⟨(PyData.keyHash P "_index"),(.str "_index" 495),(.ref 137)⟩,⟨(PyData.keyHash P "UnsupportedOperation"),(.str "UnsupportedOperation" 517),(.ref 147)⟩,⟨(PyData.keyHash P "IOBase"),(.str "IOBase" 549),(.ref 167)⟩,⟨(PyData.keyHash P "BufferedIOBase"),(.str "BufferedIOBase" 567),(.ref 182)⟩,⟨(PyData.keyHash P "TextIOBase"),(.str "TextIOBase" 585),(.ref 194)⟩,⟨(PyData.keyHash P "BytesIO"),(.str "BytesIO" 847),(.ref 424)⟩,⟨(PyData.keyHash P "StringIO"),(.str "StringIO" 1134),(.ref 671)⟩,⟨(PyData.keyHash P "_kind"),(.str "_kind" 1145),(.ref 680)⟩,⟨(PyData.keyHash P "_fspath"),(.str "_fspath" 1154),(.ref 687)⟩,⟨(PyData.keyHash P "_check_arg_types"),(.str "_check_arg_types" 1164),(.ref 694)⟩,⟨(PyData.keyHash P "isabs"),(.str "isabs" 1171),(.ref 701)⟩,⟨(PyData.keyHash P "join"),(.str "join" 1182),(.ref 825)⟩,⟨(PyData.keyHash P "join_path"),(.str "join_path" 1183),(.ref 708)⟩,⟨(PyData.keyHash P "dirname"),(.str "dirname" 1193),(.ref 715)⟩,⟨(PyData.keyHash P "shlex"),(.str "shlex" 1334),(.ref 806)⟩,⟨(PyData.keyHash P "split"),(.str "split" 1344),(.ref 818)⟩,⟨(PyData.keyHash P "join_shlex"),(.str "join_shlex" 1352),(.ref 825)⟩,⟨(PyData.keyHash P "_find_unsafe"),(.str "_find_unsafe" 1354),(.ref 826)⟩,⟨(PyData.keyHash P "quote"),(.str "quote" 1361),(.ref 833)⟩,⟨(PyData.keyHash P "_law_octets"),(.str "_law_octets" 1369),(.ref 838)⟩,⟨(PyData.keyHash P "_law_writing"),(.str "_law_writing" 1375),(.ref 843)⟩,⟨(PyData.keyHash P "_law_words"),(.str "_law_words" 1381),(.ref 848)⟩,⟨(PyData.keyHash P "_law_read"),(.str "_law_read" 1388),(.ref 855)⟩,⟨(PyData.keyHash P "_law_line"),(.str "_law_line" 1394),(.ref 860)⟩,⟨(PyData.keyHash P "law"),(.str "law" 1400),(.ref 865)⟩] 46),#[]⟩),
  (43,⟨(.type "code"),none,(.fields #[(.str "_wall" 324),(.str "_wall" 325),(.str "/claim/cut.py" 326),(.int 3 0),(.int 1 0),(.int 0 0),(.int 0 0),(.int 3 0),(.ref 38),(.bool true),(.int 318 0),(.ref 39),.none,(.ref 40),(.ref 41),(.ref 42),(.int 328 0),(.int 3 0),(.str "/claim/cut.py" 329)]),#[]⟩),
  (52,⟨(.type "tuple"),none,(.seq #[(.str "_it" 345),(.str "_func" 346)] 0),#[]⟩),
  (58,⟨(.type "code"),none,(.fields #[(.str "__init__" 348),(.str "filterfalse.__init__" 349),(.str "/claim/cut.py" 350),(.int 10 0),(.int 3 0),(.int 3 0),(.int 0 0),(.int 3 0),(.ref 53),(.bool true),(.int 318 0),(.ref 54),.none,(.ref 55),(.ref 56),(.ref 57),(.int 354 0),(.int 10 0),(.str "/claim/cut.py" 355)]),#[]⟩),
  (59,mkF (st2 4 1) rfl "filterfalse.__init__" .none .none (.str "itertools" 331) 58),
  (62,⟨(.type "tuple"),none,(.seq #[(.str "self" 360)] 0),#[]⟩),
  (63,⟨(.type "tuple"),none,(.seq #[] 0),#[]⟩),
  (65,⟨(.type "code"),none,(.fields #[(.str "__iter__" 357),(.str "filterfalse.__iter__" 358),(.str "/claim/cut.py" 359),(.int 14 0),(.int 1 0),(.int 0 0),(.int 0 0),(.int 3 0),(.ref 60),(.bool true),(.int 318 0),(.ref 61),.none,(.ref 62),(.ref 63),(.ref 64),(.int 361 0),(.int 14 0),(.str "/claim/cut.py" 362)]),#[]⟩),
  (66,mkF (st2 4 2) rfl "filterfalse.__iter__" .none .none (.str "itertools" 331) 65),
  (72,⟨(.type "code"),none,(.fields #[(.str "__next__" 364),(.str "filterfalse.__next__" 365),(.str "/claim/cut.py" 366),(.int 17 0),(.int 1 0),(.int 0 0),(.int 0 0),(.int 3 0),(.ref 67),(.bool true),(.int 318 0),(.ref 68),.none,(.ref 69),(.ref 70),(.ref 71),(.int 370 0),(.int 17 0),(.str "/claim/cut.py" 371)]),#[]⟩),
  (73,mkF (st2 4 3) rfl "filterfalse.__next__" .none .none (.str "itertools" 331) 72),
  (74,⟨(.type "tuple"),none,(.seq #[(.str "_func" 373),(.str "_it" 374)] 0),#[]⟩),
  (76,⟨(.type "dict"),none,(.dict #[⟨(PyData.keyHash P "__module__"),(.str "__module__" 340),(.str "itertools" 331)⟩,⟨(PyData.keyHash P "__firstlineno__"),(.str "__firstlineno__" 344),(.int 7 343)⟩,⟨(PyData.keyHash P "__slots__"),(.str "__slots__" 347),(.ref 52)⟩,⟨(PyData.keyHash P "__init__"),(.str "__init__" 356),(.ref 59)⟩,⟨(PyData.keyHash P "__iter__"),(.str "__iter__" 363),(.ref 66)⟩,⟨(PyData.keyHash P "__next__"),(.str "__next__" 372),(.ref 73)⟩,⟨(PyData.keyHash P "__static_attributes__"),(.str "__static_attributes__" 375),(.ref 74)⟩,⟨(PyData.keyHash P "_func"),(.str "_func" 377),(.ref 78)⟩,⟨(PyData.keyHash P "_it"),(.str "_it" 379),(.ref 79)⟩,⟨(PyData.keyHash P "__doc__"),(.str "__doc__" 380),.none⟩] 4),#[]⟩),
  (77,⟨(.type "type"),none,(.cls ⟨"filterfalse",[(.type "object")],[(.ref 77),(.type "object")],76,"filterfalse",false,["_func","_it"],[],false,none,false⟩),#[none,none,(some (.str "filterfalse" 333)),(some (.str "filterfalse" 341)),(some (.builtin "object.__new__")),(some (.bool false))]⟩),
  (78,⟨(.type "member_descriptor"),none,(.fields #[(.str "_func" 376),(.ref 77),(.builtin "proto.slot"),(.builtin "proto.slot#set"),(.int 1 0)]),#[]⟩),
  (79,⟨(.type "member_descriptor"),none,(.fields #[(.str "_it" 378),(.ref 77),(.builtin "proto.slot"),(.builtin "proto.slot#set"),(.int 0 0)]),#[]⟩),
  (87,⟨(.type "code"),none,(.fields #[(.str "_filter" 385),(.str "_filter" 386),(.str "/claim/cut.py" 387),(.int 27 0),(.int 2 0),(.int 0 0),(.int 0 0),(.int 3 0),(.ref 82),(.bool true),(.int 318 0),(.ref 83),.none,(.ref 84),(.ref 85),(.ref 86),(.int 390 0),(.int 27 0),(.str "/claim/cut.py" 391)]),#[]⟩),
  (88,mkF (st1 6) rfl "_filter" .none .none (.str "cpy313.filecmp" 383) 87),
  (94,⟨(.type "code"),none,(.fields #[(.str "_buffer" 395),(.str "_buffer" 396),(.str "/claim/cut.py" 397),(.int 30 0),(.int 1 0),(.int 0 0),(.int 0 0),(.int 3 0),(.ref 89),(.bool true),(.int 318 0),(.ref 90),.none,(.ref 91),(.ref 92),(.ref 93),(.int 400 0),(.int 30 0),(.str "/claim/cut.py" 401)]),#[]⟩),
  (95,mkF (st1 8) rfl "_buffer" .none .none (.str "binascii" 393) 94),
  (101,⟨(.type "code"),none,(.fields #[(.str "_truth" 403),(.str "_truth" 404),(.str "/claim/cut.py" 405),(.int 37 0),(.int 1 0),(.int 0 0),(.int 0 0),(.int 3 0),(.ref 96),(.bool true),(.int 318 0),(.ref 97),.none,(.ref 98),(.ref 99),(.ref 100),(.int 408 0),(.int 37 0),(.str "/claim/cut.py" 409)]),#[]⟩),
  (102,mkF (st1 9) rfl "_truth" .none .none (.str "binascii" 393) 101),
  (103,⟨(.type "dict"),none,(.dict #[⟨(PyData.keyHash P "newline"),(.str "newline" 413),(.bool true)⟩] 1),#[]⟩),
  (109,⟨(.type "code"),none,(.fields #[(.str "b2a_base64" 414),(.str "b2a_base64" 415),(.str "/claim/cut.py" 416),(.int 43 0),(.int 1 0),(.int 1 0),(.int 1 0),(.int 3 0),(.ref 104),(.bool true),(.int 318 0),(.ref 105),.none,(.ref 106),(.ref 107),(.ref 108),(.int 424 0),(.int 43 0),(.str "/claim/cut.py" 425)]),#[]⟩),
  (110,mkF (st1 11) rfl "b2a_base64" .none (.ref 103) (.str "binascii" 393) 109),
  (111,⟨(.type "tuple"),none,(.seq #[.none] 0),#[]⟩),
  (117,⟨(.type "code"),none,(.fields #[(.str "b64encode" 429),(.str "b64encode" 430),(.str "/claim/cut.py" 431),(.int 66 0),(.int 2 0),(.int 0 0),(.int 0 0),(.int 3 0),(.ref 112),(.bool true),(.int 318 0),(.ref 113),.none,(.ref 114),(.ref 115),(.ref 116),(.int 435 0),(.int 66 0),(.str "/claim/cut.py" 436)]),#[]⟩),
  (118,mkF (st1 13) rfl "b64encode" (.ref 111) .none (.str "cpy313.base64" 427) 117),
  (122,⟨(.type "tuple"),none,(.seq #[(.int 14 0),(.int 17 0),(.int 4 0),(.int 1 0),(.int 1 0),(.int 21 0),(.int 9 0),(.int 0 0),(.int 604043296 0),(.int 1 0),(.int 0 0),(.int 0 0),(.int 0 0),(.int 0 0),(.int 0 0),(.int 8 0),(.int 4 0),(.int 0 0),(.int 13 0),(.int 14 0),(.int 21 0),(.int 9 0),(.int 0 0),(.int 604043296 0),(.int 1 0),(.int 0 0),(.int 0 0),(.int 0 0),(.int 0 0),(.int 0 0),(.int 8 0),(.int 4 0),(.int 0 0),(.int 1 0)] 0),#[]⟩),
  (123,⟨(.type "re.Pattern"),none,(.fields #[(.str "[^\\w@%+=:,./-]" 439),(.int 256 476),(.int 0 0),.none,.none,(.ref 122),(.int 0 0)]),#[]⟩),
  (136,⟨(.type "code"),none,(.fields #[(.str "_index" 488),(.str "_index" 489),(.str "/claim/cut.py" 490),(.int 79 0),(.int 2 0),(.int 0 0),(.int 0 0),(.int 3 0),(.ref 131),(.bool true),(.int 318 0),(.ref 132),.none,(.ref 133),(.ref 134),(.ref 135),(.int 493 0),(.int 79 0),(.str "/claim/cut.py" 494)]),#[]⟩),
  (137,mkF (st1 17) rfl "_index" .none .none (.str "io" 478) 136),
  (163,⟨(.type "code"),none,(.fields #[(.str "__new__" 532),(.str "IOBase.__new__" 533),(.str "/claim/cut.py" 534),(.int 91 0),(.int 1 0),(.int 1 0),(.int 0 0),(.int 15 0),(.ref 158),(.bool true),(.int 318 0),(.ref 159),.none,(.ref 160),(.ref 161),(.ref 162),(.int 538 0),(.int 91 0),(.str "/claim/cut.py" 539)]),#[]⟩),
  (164,mkF (st2 19 1) rfl "IOBase.__new__" .none .none (.str "io" 478) 163),
  (166,⟨(.type "dict"),none,(.dict #[⟨(PyData.keyHash P "__module__"),(.str "__module__" 525),(.str "io" 530)⟩,⟨(PyData.keyHash P "__firstlineno__"),(.str "__firstlineno__" 529),(.int 88 528)⟩,⟨(PyData.keyHash P "__new__"),(.str "__new__" 540),(.ref 168)⟩,⟨(PyData.keyHash P "__static_attributes__"),(.str "__static_attributes__" 541),(.ref 165)⟩,⟨(PyData.keyHash P "__dict__"),(.str "__dict__" 544),(.ref 169)⟩,⟨(PyData.keyHash P "__weakref__"),(.str "__weakref__" 546),(.ref 170)⟩,⟨(PyData.keyHash P "__doc__"),(.str "__doc__" 547),.none⟩] 4),#[]⟩),
  (167,⟨(.type "type"),none,(.cls ⟨"IOBase",[(.type "object")],[(.ref 167),(.type "object")],166,"IOBase",true,[],[(.ref 182),(.ref 194)],false,none,false⟩),#[none,none,(some (.str "IOBase" 518)),(some (.str "IOBase" 526)),(some .none),(some (.bool true))]⟩),
  (168,⟨(.type "staticmethod"),none,(.fields #[(.ref 164)]),#[]⟩),
  (181,⟨(.type "dict"),none,(.dict #[⟨(PyData.keyHash P "__module__"),(.str "__module__" 557),(.str "io" 562)⟩,⟨(PyData.keyHash P "__firstlineno__"),(.str "__firstlineno__" 561),(.int 95 560)⟩,⟨(PyData.keyHash P "__static_attributes__"),(.str "__static_attributes__" 564),(.ref 180)⟩,⟨(PyData.keyHash P "__doc__"),(.str "__doc__" 565),.none⟩] 2),#[]⟩),
  (182,⟨(.type "type"),none,(.cls ⟨"BufferedIOBase",[(.ref 167)],[(.ref 182),(.ref 167),(.type "object")],181,"BufferedIOBase",true,[],[(.ref 424)],false,none,false⟩),#[(some (.ref 173)),none,(some (.str "BufferedIOBase" 550)),(some (.str "BufferedIOBase" 558)),(some .none),(some (.bool true))]⟩),
  (193,⟨(.type "dict"),none,(.dict #[⟨(PyData.keyHash P "__module__"),(.str "__module__" 575),(.str "io" 580)⟩,⟨(PyData.keyHash P "__firstlineno__"),(.str "__firstlineno__" 579),(.int 97 578)⟩,⟨(PyData.keyHash P "__static_attributes__"),(.str "__static_attributes__" 582),(.ref 192)⟩,⟨(PyData.keyHash P "__doc__"),(.str "__doc__" 583),.none⟩] 2),#[]⟩),
  (194,⟨(.type "type"),none,(.cls ⟨"TextIOBase",[(.ref 167)],[(.ref 194),(.ref 167),(.type "object")],193,"TextIOBase",true,[],[(.ref 671)],false,none,false⟩),#[(some (.ref 185)),none,(some (.str "TextIOBase" 568)),(some (.str "TextIOBase" 576)),(some .none),(some (.bool true))]⟩),
  (423,⟨(.type "dict"),none,(.dict #[⟨(PyData.keyHash P "__module__"),(.str "__module__" 593),(.str "_io" 598)⟩,⟨(PyData.keyHash P "__firstlineno__"),(.str "__firstlineno__" 597),(.int 99 596)⟩,⟨(PyData.keyHash P "__init__"),(.str "__init__" 607),(.ref 211)⟩,⟨(PyData.keyHash P "_BytesIO__check"),(.str "_BytesIO__check" 614),(.ref 218)⟩,⟨(PyData.keyHash P "_BytesIO__line"),(.str "_BytesIO__line" 625),(.ref 225)⟩,⟨(PyData.keyHash P "closed"),(.str "closed" 633),(.ref 233)⟩,⟨(PyData.keyHash P "close"),(.str "close" 640),(.ref 240)⟩,⟨(PyData.keyHash P "__enter__"),(.str "__enter__" 647),(.ref 247)⟩,⟨(PyData.keyHash P "__exit__"),(.str "__exit__" 655),(.ref 254)⟩,⟨(PyData.keyHash P "readable"),(.str "readable" 662),(.ref 261)⟩,⟨(PyData.keyHash P "writable"),(.str "writable" 669),(.ref 268)⟩,⟨(PyData.keyHash P "seekable"),(.str "seekable" 676),(.ref 275)⟩,⟨(PyData.keyHash P "isatty"),(.str "isatty" 683),(.ref 282)⟩,⟨(PyData.keyHash P "flush"),(.str "flush" 690),(.ref 289)⟩,⟨(PyData.keyHash P "fileno"),(.str "fileno" 697),(.ref 296)⟩,⟨(PyData.keyHash P "detach"),(.str "detach" 704),(.ref 303)⟩,⟨(PyData.keyHash P "getvalue"),(.str "getvalue" 711),(.ref 310)⟩,⟨(PyData.keyHash P "getbuffer"),(.str "getbuffer" 718),(.ref 317)⟩,⟨(PyData.keyHash P "tell"),(.str "tell" 725),(.ref 324)⟩,⟨(PyData.keyHash P "seek"),(.str "seek" 735),(.ref 332)⟩,⟨(PyData.keyHash P "truncate"),(.str "truncate" 743),(.ref 340)⟩,⟨(PyData.keyHash P "read"),(.str "read" 755),(.ref 348)⟩,⟨(PyData.keyHash P "read1"),(.str "read1" 765),(.ref 356)⟩,⟨(PyData.keyHash P "readinto"),(.str "readinto" 775),(.ref 363)⟩,⟨(PyData.keyHash P "readinto1"),(.str "readinto1" 783),(.ref 370)⟩,⟨(PyData.keyHash P "readline"),(.str "readline" 793),(.ref 378)⟩,⟨(PyData.keyHash P "readlines"),(.str "readlines" 801),(.ref 386)⟩,⟨(PyData.keyHash P "__iter__"),(.str "__iter__" 808),(.ref 393)⟩,⟨(PyData.keyHash P "__next__"),(.str "__next__" 816),(.ref 400)⟩,⟨(PyData.keyHash P "write"),(.str "write" 826),(.ref 407)⟩,⟨(PyData.keyHash P "writelines"),(.str "writelines" 834),(.ref 414)⟩,⟨(PyData.keyHash P "__repr__"),(.str "__repr__" 841),(.ref 421)⟩,⟨(PyData.keyHash P "__static_attributes__"),(.str "__static_attributes__" 844),(.ref 422)⟩,⟨(PyData.keyHash P "__doc__"),(.str "__doc__" 845),.none⟩] 2),#[]⟩),
  (424,⟨(.type "type"),none,(.cls ⟨"BytesIO",[(.ref 182)],[(.ref 424),(.ref 182),(.ref 167),(.type "object")],423,"BytesIO",true,[],[],false,none,false⟩),#[(some (.ref 197)),none,(some (.str "BytesIO" 586)),(some (.str "BytesIO" 594)),(some .none),(some (.bool true))]⟩),
  (434,⟨(.type "tuple"),none,(.seq #[(.str "" 862),(.str "\n" 863)] 0),#[]⟩),
  (440,⟨(.type "code"),none,(.fields #[(.str "__init__" 864),(.str "StringIO.__init__" 865),(.str "/claim/cut.py" 866),(.int 272 0),(.int 3 0),(.int 0 0),(.int 0 0),(.int 3 0),(.ref 435),(.bool true),(.int 318 0),(.ref 436),.none,(.ref 437),(.ref 438),(.ref 439),(.int 870 0),(.int 272 0),(.str "/claim/cut.py" 871)]),#[]⟩),
  (441,mkF (st2 23 1) rfl "StringIO.__init__" (.ref 434) .none (.str "io" 478) 440),
  (447,⟨(.type "code"),none,(.fields #[(.str "__translated" 873),(.str "StringIO.__translated" 874),(.str "/claim/cut.py" 875),(.int 285 0),(.int 2 0),(.int 0 0),(.int 0 0),(.int 3 0),(.ref 442),(.bool true),(.int 318 0),(.ref 443),.none,(.ref 444),(.ref 445),(.ref 446),(.int 879 0),(.int 285 0),(.str "/claim/cut.py" 880)]),#[]⟩),
  (448,mkF (st2 23 2) rfl "StringIO.__translated" .none .none (.str "io" 478) 447),
  (454,⟨(.type "code"),none,(.fields #[(.str "__check" 882),(.str "StringIO.__check" 883),(.str "/claim/cut.py" 884),(.int 293 0),(.int 1 0),(.int 0 0),(.int 0 0),(.int 3 0),(.ref 449),(.bool true),(.int 318 0),(.ref 450),.none,(.ref 451),(.ref 452),(.ref 453),(.int 886 0),(.int 293 0),(.str "/claim/cut.py" 887)]),#[]⟩),
  (455,mkF (st2 23 3) rfl "StringIO.__check" .none .none (.str "io" 478) 454),
  (468,⟨(.type "code"),none,(.fields #[(.str "__line" 896),(.str "StringIO.__line" 897),(.str "/claim/cut.py" 898),(.int 301 0),(.int 2 0),(.int 0 0),(.int 0 0),(.int 3 0),(.ref 463),(.bool true),(.int 318 0),(.ref 464),.none,(.ref 465),(.ref 466),(.ref 467),(.int 908 0),(.int 301 0),(.str "/claim/cut.py" 909)]),#[]⟩),
  (469,mkF (st2 23 5) rfl "StringIO.__line" .none .none (.str "io" 478) 468),
  (610,⟨(.type "tuple"),none,(.seq #[(.int (-1) 1055)] 0),#[]⟩),
  (616,⟨(.type "code"),none,(.fields #[(.str "read" 1056),(.str "StringIO.read" 1057),(.str "/claim/cut.py" 1058),(.int 415 0),(.int 2 0),(.int 2 0),(.int 0 0),(.int 3 0),(.ref 611),(.bool true),(.int 318 0),(.ref 612),.none,(.ref 613),(.ref 614),(.ref 615),(.int 1063 0),(.int 415 0),(.str "/claim/cut.py" 1064)]),#[]⟩),
  (617,mkF (st2 23 25) rfl "StringIO.read" (.ref 610) .none (.str "io" 478) 616),
  (618,⟨(.type "tuple"),none,(.seq #[(.int (-1) 1067)] 0),#[]⟩),
  (624,⟨(.type "code"),none,(.fields #[(.str "readline" 1068),(.str "StringIO.readline" 1069),(.str "/claim/cut.py" 1070),(.int 429 0),(.int 2 0),(.int 2 0),(.int 0 0),(.int 3 0),(.ref 619),(.bool true),(.int 318 0),(.ref 620),.none,(.ref 621),(.ref 622),(.ref 623),(.int 1073 0),(.int 429 0),(.str "/claim/cut.py" 1074)]),#[]⟩),
  (625,mkF (st2 23 26) rfl "StringIO.readline" (.ref 618) .none (.str "io" 478) 624),
  (670,⟨(.type "dict"),none,(.dict #[⟨(PyData.keyHash P "__module__"),(.str "__module__" 855),(.str "_io" 860)⟩,⟨(PyData.keyHash P "__firstlineno__"),(.str "__firstlineno__" 859),(.int 269 858)⟩,⟨(PyData.keyHash P "__init__"),(.str "__init__" 872),(.ref 441)⟩,⟨(PyData.keyHash P "_StringIO__translated"),(.str "_StringIO__translated" 881),(.ref 448)⟩,⟨(PyData.keyHash P "_StringIO__check"),(.str "_StringIO__check" 888),(.ref 455)⟩,⟨(PyData.keyHash P "_StringIO__check_dot"),(.str "_StringIO__check_dot" 895),(.ref 462)⟩,⟨(PyData.keyHash P "_StringIO__line"),(.str "_StringIO__line" 910),(.ref 469)⟩,⟨(PyData.keyHash P "closed"),(.str "closed" 918),(.ref 477)⟩,⟨(PyData.keyHash P "line_buffering"),(.str "line_buffering" 926),(.ref 485)⟩,⟨(PyData.keyHash P "newlines"),(.str "newlines" 934),(.ref 493)⟩,⟨(PyData.keyHash P "encoding"),(.str "encoding" 942),(.ref 501)⟩,⟨(PyData.keyHash P "errors"),(.str "errors" 950),(.ref 509)⟩,⟨(PyData.keyHash P "close"),(.str "close" 957),(.ref 516)⟩,⟨(PyData.keyHash P "__enter__"),(.str "__enter__" 964),(.ref 523)⟩,⟨(PyData.keyHash P "__exit__"),(.str "__exit__" 972),(.ref 530)⟩,⟨(PyData.keyHash P "readable"),(.str "readable" 979),(.ref 537)⟩,⟨(PyData.keyHash P "writable"),(.str "writable" 986),(.ref 544)⟩,⟨(PyData.keyHash P "seekable"),(.str "seekable" 993),(.ref 551)⟩,⟨(PyData.keyHash P "isatty"),(.str "isatty" 1000),(.ref 558)⟩,⟨(PyData.keyHash P "flush"),(.str "flush" 1007),(.ref 565)⟩,⟨(PyData.keyHash P "fileno"),(.str "fileno" 1014),(.ref 572)⟩,⟨(PyData.keyHash P "detach"),(.str "detach" 1021),(.ref 579)⟩,⟨(PyData.keyHash P "getvalue"),(.str "getvalue" 1028),(.ref 586)⟩,⟨(PyData.keyHash P "tell"),(.str "tell" 1035),(.ref 593)⟩,⟨(PyData.keyHash P "seek"),(.str "seek" 1045),(.ref 601)⟩,⟨(PyData.keyHash P "truncate"),(.str "truncate" 1053),(.ref 609)⟩,⟨(PyData.keyHash P "read"),(.str "read" 1065),(.ref 617)⟩,⟨(PyData.keyHash P "readline"),(.str "readline" 1075),(.ref 625)⟩,⟨(PyData.keyHash P "readlines"),(.str "readlines" 1085),(.ref 633)⟩,⟨(PyData.keyHash P "__iter__"),(.str "__iter__" 1092),(.ref 640)⟩,⟨(PyData.keyHash P "__next__"),(.str "__next__" 1100),(.ref 647)⟩,⟨(PyData.keyHash P "write"),(.str "write" 1112),(.ref 654)⟩,⟨(PyData.keyHash P "writelines"),(.str "writelines" 1120),(.ref 661)⟩,⟨(PyData.keyHash P "__repr__"),(.str "__repr__" 1127),(.ref 668)⟩,⟨(PyData.keyHash P "__static_attributes__"),(.str "__static_attributes__" 1131),(.ref 669)⟩,⟨(PyData.keyHash P "__doc__"),(.str "__doc__" 1132),.none⟩] 2),#[]⟩),
  (671,⟨(.type "type"),none,(.cls ⟨"StringIO",[(.ref 194)],[(.ref 671),(.ref 194),(.ref 167),(.type "object")],670,"StringIO",true,[],[],false,none,false⟩),#[(some (.ref 427)),none,(some (.str "StringIO" 848)),(some (.str "StringIO" 856)),(some .none),(some (.bool true))]⟩),
  (723,⟨(.type "tuple"),none,(.seq #[.none,.none,(.bool false),(.bool false)] 0),#[]⟩),
  (729,⟨(.type "code"),none,(.fields #[(.str "__init__" 1208),(.str "shlex.__init__" 1209),(.str "/claim/cut.py" 1210),(.int 541 0),(.int 5 0),(.int 0 0),(.int 0 0),(.int 3 0),(.ref 724),(.bool true),(.int 318 0),(.ref 725),.none,(.ref 726),(.ref 727),(.ref 728),(.int 1217 0),(.int 541 0),(.str "/claim/cut.py" 1218)]),#[]⟩),
  (730,mkF (st2 33 0) rfl "shlex.__init__" (.ref 723) .none (.str "cpy313.shlex" 1194) 729),
  (736,⟨(.type "code"),none,(.fields #[(.str "punctuation_chars" 1220),(.str "shlex.punctuation_chars" 1221),(.str "/claim/cut.py" 1222),(.int 582 0),(.int 1 0),(.int 0 0),(.int 0 0),(.int 3 0),(.ref 731),(.bool true),(.int 318 0),(.ref 732),.none,(.ref 733),(.ref 734),(.ref 735),(.int 1224 0),(.int 582 0),(.str "/claim/cut.py" 1225)]),#[]⟩),
  (737,mkF (st2 33 1) rfl "shlex.punctuation_chars" .none .none (.str "cpy313.shlex" 1194) 736),
  (738,⟨(.type "property"),none,(.fields #[(.ref 737),.none,.none,.none,(.str "punctuation_chars" 1227),(.bool false)]),#[]⟩),
  (766,⟨(.type "code"),none,(.fields #[(.str "get_token" 1252),(.str "shlex.get_token" 1253),(.str "/claim/cut.py" 1254),(.int 609 0),(.int 1 0),(.int 0 0),(.int 0 0),(.int 3 0),(.ref 761),(.bool true),(.int 318 0),(.ref 762),.none,(.ref 763),(.ref 764),(.ref 765),(.int 1261 0),(.int 609 0),(.str "/claim/cut.py" 1262)]),#[]⟩),
  (767,mkF (st2 33 5) rfl "shlex.get_token" .none .none (.str "cpy313.shlex" 1194) 766),
  (773,⟨(.type "code"),none,(.fields #[(.str "read_token" 1264),(.str "shlex.read_token" 1265),(.str "/claim/cut.py" 1266),(.int 636 0),(.int 1 0),(.int 0 0),(.int 0 0),(.int 3 0),(.ref 768),(.bool true),(.int 318 0),(.ref 769),.none,(.ref 770),(.ref 771),(.ref 772),(.int 1272 0),(.int 636 0),(.str "/claim/cut.py" 1273)]),#[]⟩),
  (774,mkF (st2 33 6) rfl "shlex.read_token" .none .none (.str "cpy313.shlex" 1194) 773),
  (795,⟨(.type "code"),none,(.fields #[(.str "__iter__" 1292),(.str "shlex.__iter__" 1293),(.str "/claim/cut.py" 1294),(.int 783 0),(.int 1 0),(.int 0 0),(.int 0 0),(.int 3 0),(.ref 790),(.bool true),(.int 318 0),(.ref 791),.none,(.ref 792),(.ref 793),(.ref 794),(.int 1296 0),(.int 783 0),(.str "/claim/cut.py" 1297)]),#[]⟩),
  (796,mkF (st2 33 9) rfl "shlex.__iter__" .none .none (.str "cpy313.shlex" 1194) 795),
  (802,⟨(.type "code"),none,(.fields #[(.str "__next__" 1299),(.str "shlex.__next__" 1300),(.str "/claim/cut.py" 1301),(.int 786 0),(.int 1 0),(.int 0 0),(.int 0 0),(.int 3 0),(.ref 797),(.bool true),(.int 318 0),(.ref 798),.none,(.ref 799),(.ref 800),(.ref 801),(.int 1304 0),(.int 786 0),(.str "/claim/cut.py" 1305)]),#[]⟩),
  (803,mkF (st2 33 10) rfl "shlex.__next__" .none .none (.str "cpy313.shlex" 1194) 802),
  (805,⟨(.type "dict"),none,(.dict #[⟨(PyData.keyHash P "__module__"),(.str "__module__" 1203),(.str "cpy313.shlex" 1194)⟩,⟨(PyData.keyHash P "__firstlineno__"),(.str "__firstlineno__" 1207),(.int 539 1206)⟩,⟨(PyData.keyHash P "__init__"),(.str "__init__" 1219),(.ref 730)⟩,⟨(PyData.keyHash P "punctuation_chars"),(.str "punctuation_chars" 1227),(.ref 738)⟩,⟨(PyData.keyHash P "push_token"),(.str "push_token" 1235),(.ref 745)⟩,⟨(PyData.keyHash P "push_source"),(.str "push_source" 1244),(.ref 753)⟩,⟨(PyData.keyHash P "pop_source"),(.str "pop_source" 1251),(.ref 760)⟩,⟨(PyData.keyHash P "get_token"),(.str "get_token" 1263),(.ref 767)⟩,⟨(PyData.keyHash P "read_token"),(.str "read_token" 1274),(.ref 774)⟩,⟨(PyData.keyHash P "sourcehook"),(.str "sourcehook" 1282),(.ref 781)⟩,⟨(PyData.keyHash P "error_leader"),(.str "error_leader" 1291),(.ref 789)⟩,⟨(PyData.keyHash P "__iter__"),(.str "__iter__" 1298),(.ref 796)⟩,⟨(PyData.keyHash P "__next__"),(.str "__next__" 1306),(.ref 803)⟩,⟨(PyData.keyHash P "__static_attributes__"),(.str "__static_attributes__" 1327),(.ref 804)⟩,⟨(PyData.keyHash P "__dict__"),(.str "__dict__" 1329),(.ref 807)⟩,⟨(PyData.keyHash P "__weakref__"),(.str "__weakref__" 1331),(.ref 808)⟩,⟨(PyData.keyHash P "__doc__"),(.str "__doc__" 1332),.none⟩] 4),#[]⟩),
  (806,⟨(.type "type"),none,(.cls ⟨"shlex",[(.type "object")],[(.ref 806),(.type "object")],805,"shlex",true,[],[],false,none,false⟩),#[none,none,(some (.str "shlex" 1196)),(some (.str "shlex" 1204)),(some (.builtin "object.__new__")),(some (.bool true))]⟩),
  (807,⟨(.type "getset_descriptor"),none,(.fields #[(.str "__dict__" 1328),(.ref 806),(.builtin "function.__dict__"),(.builtin "function.__dict__#set")]),#[]⟩),
  (808,⟨(.type "getset_descriptor"),none,(.fields #[(.str "__weakref__" 1330),(.ref 806),(.builtin "ExceptionGroup.__weakref__"),.none]),#[]⟩),
  (811,⟨(.type "tuple"),none,(.seq #[(.bool false),(.bool true)] 0),#[]⟩),
  (817,⟨(.type "code"),none,(.fields #[(.str "split" 1335),(.str "split" 1336),(.str "/claim/cut.py" 1337),(.int 791 0),(.int 3 0),(.int 0 0),(.int 0 0),(.int 3 0),(.ref 812),(.bool true),(.int 318 0),(.ref 813),.none,(.ref 814),(.ref 815),(.ref 816),(.int 1342 0),(.int 791 0),(.str "/claim/cut.py" 1343)]),#[]⟩),
  (818,mkF (st1 34) rfl "split" (.ref 811) .none (.str "cpy313.shlex" 1194) 817),
  (824,⟨(.type "code"),none,(.fields #[(.str "join" 1345),(.str "join" 1346),(.str "/claim/cut.py" 1347),(.int 799 0),(.int 1 0),(.int 0 0),(.int 0 0),(.int 3 0),(.ref 819),(.bool true),(.int 318 0),(.ref 820),.none,(.ref 821),(.ref 822),(.ref 823),(.int 1349 0),(.int 799 0),(.str "/claim/cut.py" 1350)]),#[]⟩),
  (825,mkF (st1 35) rfl "join" .none .none (.str "cpy313.shlex" 1194) 824),
  (826,⟨(.type "builtin_function_or_method"),none,(.fields #[(.builtin "re.Pattern.search"),(.ref 123)]),#[]⟩),
  (832,⟨(.type "code"),none,(.fields #[(.str "quote" 1355),(.str "quote" 1356),(.str "/claim/cut.py" 1357),(.int 803 0),(.int 1 0),(.int 0 0),(.int 0 0),(.int 3 0),(.ref 827),(.bool true),(.int 318 0),(.ref 828),.none,(.ref 829),(.ref 830),(.ref 831),(.int 1359 0),(.int 803 0),(.str "/claim/cut.py" 1360)]),#[]⟩),
  (833,mkF (st1 38) rfl "quote" .none .none (.str "cpy313.shlex" 1194) 832),
  (837,⟨(.type "code"),none,(.fields #[(.str "_law_octets" 1364),(.str "_law_octets" 1365),(.str "/claim/cut.py" 1366),(.int 810 0),(.int 1 0),(.int 0 0),(.int 0 0),(.int 3 0),(.ref 834),(.bool true),(.int 318 0),(.ref 835),.none,.none,.none,(.ref 836),(.int 1367 0),(.int 810 0),(.str "/claim/cut.py" 1368)]),#[]⟩),
  (838,mkF (st1 40) rfl "_law_octets" .none .none (.str "law_ik0062_01" 1362) 837),
  (842,⟨(.type "code"),none,(.fields #[(.str "_law_writing" 1370),(.str "_law_writing" 1371),(.str "/claim/cut.py" 1372),(.int 817 0),(.int 2 0),(.int 0 0),(.int 0 0),(.int 3 0),(.ref 839),(.bool true),(.int 318 0),(.ref 840),.none,.none,.none,(.ref 841),(.int 1373 0),(.int 817 0),(.str "/claim/cut.py" 1374)]),#[]⟩),
  (843,mkF (st1 41) rfl "_law_writing" .none .none (.str "law_ik0062_01" 1362) 842),
  (847,⟨(.type "code"),none,(.fields #[(.str "_law_words" 1376),(.str "_law_words" 1377),(.str "/claim/cut.py" 1378),(.int 823 0),(.int 1 0),(.int 0 0),(.int 0 0),(.int 3 0),(.ref 844),(.bool true),(.int 318 0),(.ref 845),.none,.none,.none,(.ref 846),(.int 1379 0),(.int 823 0),(.str "/claim/cut.py" 1380)]),#[]⟩),
  (848,mkF (st1 42) rfl "_law_words" .none .none (.str "law_ik0062_01" 1362) 847),
  (854,⟨(.type "code"),none,(.fields #[(.str "_law_read" 1382),(.str "_law_read" 1383),(.str "/claim/cut.py" 1384),(.int 830 0),(.int 1 0),(.int 0 0),(.int 0 0),(.int 3 0),(.ref 849),(.bool true),(.int 318 0),(.ref 850),.none,(.ref 851),(.ref 852),(.ref 853),(.int 1386 0),(.int 830 0),(.str "/claim/cut.py" 1387)]),#[]⟩),
  (855,mkF (st1 43) rfl "_law_read" .none .none (.str "law_ik0062_01" 1362) 854),
  (859,⟨(.type "code"),none,(.fields #[(.str "_law_line" 1389),(.str "_law_line" 1390),(.str "/claim/cut.py" 1391),(.int 835 0),(.int 1 0),(.int 0 0),(.int 0 0),(.int 3 0),(.ref 856),(.bool true),(.int 318 0),(.ref 857),.none,.none,.none,(.ref 858),(.int 1392 0),(.int 835 0),(.str "/claim/cut.py" 1393)]),#[]⟩),
  (860,mkF (st1 44) rfl "_law_line" .none .none (.str "law_ik0062_01" 1362) 859),
  (864,⟨(.type "code"),none,(.fields #[(.str "law" 1395),(.str "law" 1396),(.str "/claim/cut.py" 1397),(.int 843 0),(.int 1 0),(.int 0 0),(.int 0 0),(.int 3 0),(.ref 861),(.bool true),(.int 318 0),(.ref 862),.none,.none,.none,(.ref 863),(.int 1398 0),(.int 843 0),(.str "/claim/cut.py" 1399)]),#[]⟩),
  (865,mkF (st1 45) rfl "law" .none .none (.str "law_ik0062_01" 1362) 864)
]
noncomputable def asKH : List Addr := [2, 3, 43, 52, 58, 59, 62, 63, 65, 66, 72, 73, 74, 76, 77, 78, 79, 87, 88, 94, 95, 101, 102, 103, 109, 110, 111, 117, 118, 122, 123, 136, 137, 163, 164, 166, 167, 168, 181, 182, 193, 194, 423, 424, 434, 440, 441, 447, 448, 454, 455, 468, 469, 610, 616, 617, 618, 624, 625, 670, 671, 723, 729, 730, 736, 737, 738, 766, 767, 773, 774, 795, 796, 802, 803, 805, 806, 807, 808, 811, 817, 818, 824, 825, 826, 832, 833, 837, 838, 842, 843, 847, 848, 854, 855, 859, 860, 864, 865]

end
/-! text U1 -/
section
noncomputable def W2 (w : World) (pg : Program) (loose : List Str) (mg mb : Str → Option Value) : Wd := ⟨PySem.Challenge.rw_ik0062_01.row.prog, w, KH w.params, pg, loose, mg, mb⟩
section
variable {w : World} {pg : Program} {loose : List Str} {mg mb : Str → Option Value} {F : Fm} {E : Value → Shared → Prop} {lc : Lc} {ob ob' : List (Addr × AO)}

noncomputable abbrev nStr (x : String) : Str := Str.ofString x
noncomputable abbrev sioF (x : Str) (p : Int) : Fl := [("_StringIO__newline", .str "\n" 0), ("_StringIO__buf", .str x 0), ("_StringIO__pos", .int p 0)]
noncomputable abbrev sio (d : Addr) (x : Str) (p : Int) : AO := .inst 671 d (sioF x p)

theorem cSio : ClsTab (KH w.params) 671 ["_StringIO__newline", "_StringIO__buf", "_StringIO__pos"] [("_StringIO__check", 455), ("_StringIO__line", 469), ("read", 617), ("readline", 625), ("_StringIO__translated", 448)] := ⟨by kernel_rfl⟩
theorem t_index (O : FmOk (W2 w pg loose mg mb) F) (C : CallOk F) (hr : 1 ≤ F.room) {i : Int} {x : Value} {P : Value → AS → Prop} (h1 : -1099511627776 ≤ i) (h2 : i ≤ 1099511627776) (h : P (.int i 0) ⟨lc, ob⟩) :
    CallF (W2 w pg loose mg mb) F E ⟨lc, ob⟩ (.ref 137) [.int i 0, x] [] P := by
  refine' c_fn (nb := [("n", .int i 0), ("what", x)]) (ps := ["n", "what"]) (others := []) O C (ho := ?ho) (hcd := ?hcd) (hb := ?hb) (hps := ?hps) (hn := ?hn) (hroom := hr) (hnf := ?hnf) (hbody := ?hbody) ?_ ?_ ?_
  krn_off
  case hb =>
    exact binds_20 (f := fun a b => [("n", a), ("what", b)]) (g := fun a b => [("n", a), ("what", b)]) (fun a b S => by kernel_rfl) (fun _ _ => rfl)
  intro F' E' O' C' hr' hs hE hL
  have G : Globs (W2 w pg loose mg mb) F' [("type", .type "type"), ("int", .type "int"), ("bool", .type "bool")] := globs_of hs (by kernel_rfl)
  clear hs O C
  have S : ClsTab (W2 w pg loose mg mb).K _ _ _ := cSio (w := w)
  simp only [List.map_cons, List.map_nil, List.cons_append, List.nil_append]
  kcj_in
  exact h

theorem t_check (O : FmOk (W2 w pg loose mg mb) F) (C : CallOk F) (hr : 1 ≤ F.room) {i d : Addr} {x : Str} {p : Int} (hm : (i, sio d x p) ∈ ob) {P : Value → AS → Prop} (h : P .none ⟨lc, ob⟩) :
    CallF (W2 w pg loose mg mb) F E ⟨lc, ob⟩ (.ref 455) [.ref i] [] P := by
  refine' c_fn (nb := [("self", .ref i)]) (ps := ["self"]) (others := []) O C (ho := ?ho) (hcd := ?hcd) (hb := ?hb) (hps := ?hps) (hn := ?hn) (hroom := hr) (hnf := ?hnf) (hbody := ?hbody) ?_ ?_ ?_
  krn_off
  case hb =>
    exact binds_10 (f := fun a => [("self", a)]) (g := fun a => [("self", a)]) (fun a S => by kernel_rfl) (fun _ => rfl)
  intro F' E' O' C' hr' hs hE hL
  have G : Globs (W2 w pg loose mg mb) F' [] := globs_of hs (by kernel_rfl)
  clear hs O C
  have S : ClsTab (W2 w pg loose mg mb).K _ _ _ := cSio (w := w)
  simp only [List.map_cons, List.map_nil, List.cons_append, List.nil_append]
  kcj_in
  exact h

theorem t_read_end (O : FmOk (W2 w pg loose mg mb) F) (C : CallOk F) (hr : 2 ≤ F.room) {i d : Addr} {x : Str} {k : Nat} (hz : x.length ≤ 1000000) (hk : x.length ≤ k) (hm : (i, sio d x k) ∈ ob) {P : Value → AS → Prop} (h : P (.str "" 0) ⟨lc, ob⟩) :
    CallF (W2 w pg loose mg mb) F E ⟨lc, ob⟩ (.ref 617) [.ref i, .int 1 0] [] P := by
  refine' c_fn (nb := [("self", .ref i), ("size", .int 1 0)]) (ps := ["self", "size"]) (others := ["start", "stop"]) O C (ho := ?ho) (hcd := ?hcd) (hb := ?hb) (hps := ?hps) (hn := ?hn) (hroom := rm1 hr rfl) (hnf := ?hnf) (hbody := ?hbody) ?_ ?_ ?_
  krn_off
  case hb =>
    exact binds_20 (f := fun a b => [("self", a), ("size", b)]) (g := fun a b => [("self", a), ("size", b)]) (fun a b S => by kernel_rfl) (fun _ _ => rfl)
  intro F' E' O' C' hr' hs hE hL
  have G : Globs (W2 w pg loose mg mb) F' [("_index", .ref 137), ("len", .builtin "len")] := globs_of hs (by kernel_rfl)
  clear hs O C
  have S : ClsTab (W2 w pg loose mg mb).K _ _ _ := cSio (w := w)
  simp only [List.map_cons, List.map_nil, List.cons_append, List.nil_append]
  kcj_in
  refine t_index O' C' (rmx hr' hr rfl) (by omega) (by omega) ?_
  kcj_in
  refine t_check O' C' (rmx hr' hr rfl) (by exact hm) ?_
  kcj_in
  refine f_len_str (by rw [sizeLine_eq]; omega) ?_
  kcj_in
  exact h

theorem slice_one {x : Str} {k c : Nat} (hc : x.cps[k]? = some c) : Txt.slice x (some (k : Int)) (some ((k : Int) + 1)) = ⟨#[c]⟩ := by
  obtain ⟨h1, h2⟩ := Array.getElem?_eq_some_iff.mp hc
  have hk : k + 1 ≤ x.length := h1
  show StrLaws.sliceText x (some (k : Int)) (some ((k + 1 : Nat) : Int)) = _
  rw [StrLaws.sliceText_nat x (Nat.le_succ k) hk]
  apply Str.ext'
  apply Array.toList_inj.mp
  have : x.cps.toList[k]? = some c := by simpa using hc
  simp [Nat.add_sub_cancel_left, List.take_one, List.head?_drop, this]
theorem slice_last (x : Str) (c : Nat) : Txt.slice (x ++ (⟨#[c]⟩ : Str)) none (some (-1)) = x := by
  have hl : (x ++ (⟨#[c]⟩ : Str)).length = x.length + 1 := Str.length_append ..
  show StrLaws.sliceText _ none (some (-1 : Int)) = _
  rw [StrLaws.sliceText_to_neg (by omega) (by omega), hl]
  apply Str.ext'
  apply Array.toList_inj.mp
  have e : (-1 + ((x.cps.size : Int) + 1)).toNat = x.cps.toList.length := by simp; omega
  simp only [Str.cps_append, Str.length, Array.toList_append, List.drop_zero, Int.sub_zero, Int.natCast_add]
  exact (congrArg (fun n => List.take n _) e).trans (by simp)

theorem t_read1 (O : FmOk (W2 w pg loose mg mb) F) (C : CallOk F) (hr : 2 ≤ F.room) {i d : Addr} {x : Str} {k c : Nat} (hz : x.length ≤ 1000000) (hc : x.cps[k]? = some c) (U : PutO i (sio d x k) (sio d x ((k + 1 : Nat) : Int)) ob ob') {P : Value → AS → Prop} (h : P (.str ⟨#[c]⟩ 0) ⟨lc, ob'⟩) :
    CallF (W2 w pg loose mg mb) F E ⟨lc, ob⟩ (.ref 617) [.ref i, .int 1 0] [] P := by
  rw [show ((k + 1 : Nat) : Int) = (k : Int) + 1 from rfl] at U
  have hm := U.mem
  have hm' := U.got
  have hk : k < x.length := (Array.getElem?_eq_some_iff.mp hc).1
  refine' c_fn (nb := [("self", .ref i), ("size", .int 1 0)]) (ps := ["self", "size"]) (others := ["start", "stop"]) O C (ho := ?ho) (hcd := ?hcd) (hb := ?hb) (hps := ?hps) (hn := ?hn) (hroom := rm1 hr rfl) (hnf := ?hnf) (hbody := ?hbody) ?_ ?_ ?_
  krn_off
  case hb =>
    exact binds_20 (f := fun a b => [("self", a), ("size", b)]) (g := fun a b => [("self", a), ("size", b)]) (fun a b S => by kernel_rfl) (fun _ _ => rfl)
  intro F' E' O' C' hr' hs hE hL
  have G : Globs (W2 w pg loose mg mb) F' [("_index", .ref 137), ("len", .builtin "len")] := globs_of hs (by kernel_rfl)
  clear hs O C
  have S : ClsTab (W2 w pg loose mg mb).K _ _ _ := cSio (w := w)
  simp only [List.map_cons, List.map_nil, List.cons_append, List.nil_append]
  kcj_in
  refine t_index O' C' (rmx hr' hr rfl) (by omega) (by omega) ?_
  kcj_in
  refine t_check O' C' (rmx hr' hr rfl) (by exact hm) ?_
  kcj_in
  refine f_len_str (by rw [sizeLine_eq]; omega) ?_
  kcj_in
  have e : (⟨#[c]⟩ : Str) = Txt.slice x (some (k : Int)) (some ((k : Int) + 1)) := (slice_one hc).symm
  rcases (by omega : (x.length : Int) = (k : Int) + 1 ∨ (k : Int) + 1 < x.length) with hl | hl
  rw [hl]
  all_goals (
    kcj_in
    refine ⟨x, _, _, rfl, .int, .int, by rw [sizeLine_eq]; omega, ?_⟩
    rw [slice_one hc]
    kcj_in
    refine o_add_str (by rw [sizeLine_eq]; exact Nat.le_of_ble_eq_true (by kernel_rfl)) ?_
    kcj_in
    refine ⟨_, _, _, rfl, .none, .int, by rw [sizeLine_eq]; exact Nat.le_of_ble_eq_true (by kernel_rfl), ?_⟩
    rw [show (Str.ofString " ") = ⟨#[32]⟩ from by decide +kernel, slice_last]
    kcj_in
    exact h)
end

end
/-! text U3 -/
section

noncomputable abbrev wBase : Str := nStr "abcdfeghijklmnopqrstuvwxyzABCDEFGHIJKLMNOPQRSTUVWXYZ0123456789_"
noncomputable abbrev wMore : Str := nStr "ßàáâãäåæçèéêëìíîïðñòóôõöøùúûüýþÿÀÁÂÃÄÅÆÇÈÉÊËÌÍÎÏÐÑÒÓÔÕÖØÙÚÛÜÝÞ"
noncomputable abbrev wcs : Str := wBase ++ wMore
noncomputable abbrev lexF (si pb fs : Addr) (split : Bool) (com : Str) (st : Value) (tok : Str) (n : Int) : Fl :=
  [("instream", .ref si), ("infile", .none), ("posix", .bool true), ("eof", .none), ("commenters", .str com 0), ("wordchars", .str wcs 0), ("whitespace", .str " \t\r\n" 0), ("whitespace_split", .bool split),
   ("quotes", .str "'\"" 0), ("escape", .str "\\" 0), ("escapedquotes", .str "\"" 0), ("state", st), ("pushback", .ref pb), ("lineno", .int n 0), ("debug", .int 0 0), ("token", .str tok 0), ("filestack", .ref fs), ("source", .none), ("_punctuation_chars", .str "" 0)]
noncomputable abbrev lexO (d si pb fs : Addr) (split : Bool) (com : Str) (st : Value) (tok : Str) (n : Int) : AO := .inst 806 d (lexF si pb fs split com st tok n)

inductive St where
  | ws | q (c : Nat) | a | none | bad
noncomputable abbrev St.val : St → Value
  | .ws => .str " " 0
  | .q c => .str ⟨#[c]⟩ 0
  | .a => .str "a" 0
  | .none => .none
  | .bad => .none
noncomputable def St.isBad : St → Bool
  | .bad => true
  | _ => false
noncomputable abbrev inS (c : Nat) (x : Str) : Bool := decide (c ∈ x.cps.toList)
noncomputable abbrev sWs : Str := nStr " \t\r\n"
noncomputable abbrev sQu : Str := nStr "'\""
noncomputable abbrev sEs : Str := nStr "\\"
noncomputable abbrev one (c : Nat) : Str := ⟨#[c]⟩
noncomputable abbrev isNl (c : Nat) : Bool := one c == nStr "\n"
noncomputable abbrev cm0 : Str := nStr ""
theorem inS_nil (c : Nat) : inS c cm0 = false := decide_eq_false (by
  rw [show cm0 = (⟨#[]⟩ : Str) from by decide +kernel]; simp)
noncomputable def WsT (T : St → Str → Bool → List Nat → Prop) (tok : Str) (q : Bool) (c : Nat) (r : List Nat) : Prop :=
  isNl c = false ∧ (inS c sWs = true → ((tok.length : Int) != 0) = false ∧ q = false ∧ T .ws tok q r) ∧
    (inS c sWs = false → inS c sEs = false ∧ (inS c wcs = true → T .a (one c) q r) ∧ (inS c wcs = false → (inS c sQu = true → T (.q c) tok q r) ∧ (inS c sQu = false → T .a (one c) q r)))
noncomputable def AT (T : St → Str → Bool → List Nat → Prop) (D : List Nat → Prop) (tok : Str) (q : Bool) (c : Nat) (r : List Nat) : Prop :=
  isNl c = false ∧ (inS c sWs = true → D r ∧ (((tok.length : Int) != 0) = false → q = true)) ∧
    (inS c sWs = false → (inS c sQu = true → T (.q c) tok q r) ∧ (inS c sQu = false → inS c sEs = false ∧ T .a (tok ++ one c) q r))
noncomputable def QT (T : St → Str → Bool → List Nat → Prop) (d : Nat) (tok : Str) (c : Nat) (r : List Nat) : Prop :=
  isNl c = false ∧ (one d == nStr " ") = false ∧ inS d sQu = true ∧
  ((one c == one d) = true → T .a tok true r) ∧ ((one c == one d) = false → inS c sEs = false ∧ T (.q d) (tok ++ one c) true r)
noncomputable def EndsW (s' : St) (t' : Str) (q' : Bool) (r' : List Nat) (s : St) (t : Str) (q : Bool) (r : List Nat) : Prop := s' = s ∧ t' = t ∧ q' = q ∧ r' = r
noncomputable def Tk : Nat → St → Str → Bool → List Nat → St → Str → Bool → List Nat → Prop
  | 0, _, _, _, _, _, _, _, _ => False
  | _ + 1, .none, _, q, [], s', t', q', r' => EndsW s' t' q' r' .none "" q []
  | _ + 1, .ws, tok, q, [], s', t', q', r' => EndsW s' t' q' r' .none tok q []
  | _ + 1, .a, tok, q, [], s', t', q', r' => EndsW s' t' q' r' .none tok q []
  | n + 1, .ws, tok, q, c :: r, s', t', q', r' => WsT (fun st t q r => Tk n st t q r s' t' q' r') tok q c r
  | n + 1, .a, tok, q, c :: r, s', t', q', r' => AT (fun st t q r => Tk n st t q r s' t' q' r') (EndsW s' t' q' r' .ws tok q) tok q c r
  | n + 1, .q d, tok, _, c :: r, s', t', q', r' => QT (fun st t q r => Tk n st t q r s' t' q' r') d tok c r
  | _ + 1, .q d, tok, q, [], s', t', q', r' => (one d == nStr " ") = false ∧ inS d sQu = true ∧ EndsW s' t' q' r' .bad tok q []
  | _ + 1, _, _, _, _, _, _, _, _ => False
theorem e_tok0 : (((Str.ofString "").length : Int) != 0) = false := by decide +kernel
theorem no1 {b : Bool} {P : Prop} (h : b = false) (e : b = true) : P := Bool.noConfusion (h.symm.trans e)
theorem no0 {b : Bool} {P : Prop} (h : b = true) (e : b = false) : P := Bool.noConfusion (h.symm.trans e)
/-! what the rest of a run must be, by the sign at hand; and the ways to say it -/
section
variable {q q' : Bool} {tok t' : Str} {N n c d : Nat} {r r' R : List Nat} {s' st : St}
theorem Tk.pos (h : Tk N st tok q R s' t' q' r') : ∃ n, N = n + 1 := match N, h with | 0, h => h.elim | n + 1, _ => ⟨n, rfl⟩
theorem Tk.none_nil (h : Tk (n + 1) .none tok q [] s' t' q' r') : EndsW s' t' q' r' .none "" q [] := h
theorem Tk.ws_nil (h : Tk (n + 1) .ws tok q [] s' t' q' r') : EndsW s' t' q' r' .none tok q [] := h
theorem Tk.a_nil (h : Tk (n + 1) .a tok q [] s' t' q' r') : EndsW s' t' q' r' .none tok q [] := h
theorem Tk.q_nil (h : Tk (n + 1) (.q d) tok q [] s' t' q' r') : (one d == nStr " ") = false ∧ inS d sQu = true ∧ EndsW s' t' q' r' .bad tok q [] := h
theorem Tk.q_eof (h1 : (one d == nStr " ") = false) (h2 : inS d sQu = true) : Tk (n + 1) (.q d) tok q [] .bad tok q [] := ⟨h1, h2, rfl, rfl, rfl, rfl⟩
theorem Tk.ws_i (h : Tk (n + 1) .ws tok q (c :: r) s' t' q' r') : WsT (fun st t q r => Tk n st t q r s' t' q' r') tok q c r := h
theorem Tk.a_i (h : Tk (n + 1) .a tok q (c :: r) s' t' q' r') : AT (fun st t q r => Tk n st t q r s' t' q' r') (EndsW s' t' q' r' .ws tok q) tok q c r := h
theorem Tk.q_i (h : Tk (n + 1) (.q d) tok q (c :: r) s' t' q' r') : QT (fun st t q r => Tk n st t q r s' t' q' r') d tok c r := h
theorem Tk.noNl (h : Tk (n + 1) st tok q (c :: r) s' t' q' r') : isNl c = false := match st, h with
  | .ws, h => h.ws_i.1
  | .a, h => h.a_i.1
  | .q _, h => h.q_i.1
  | .none, h => False.elim h
  | .bad, h => False.elim h
theorem Tk.wsI (h : WsT (fun st t q r => Tk n st t q r s' t' q' r') tok q c r) : Tk (n + 1) .ws tok q (c :: r) s' t' q' r' := h
theorem Tk.aI (h : AT (fun st t q r => Tk n st t q r s' t' q' r') (EndsW s' t' q' r' .ws tok q) tok q c r) : Tk (n + 1) .a tok q (c :: r) s' t' q' r' := h
theorem Tk.qI (h : QT (fun st t q r => Tk n st t q r s' t' q' r') d tok c r) : Tk (n + 1) (.q d) tok q (c :: r) s' t' q' r' := h
theorem Tk.ended : Tk (n + 1) .none tok q [] .none "" q [] := ⟨rfl, rfl, rfl, rfl⟩
theorem Tk.ws_eof : Tk (n + 1) .ws tok q [] .none tok q [] := ⟨rfl, rfl, rfl, rfl⟩
theorem Tk.a_eof : Tk (n + 1) .a tok q [] .none tok q [] := ⟨rfl, rfl, rfl, rfl⟩
theorem Tk.ws_blank (h1 : inS c sWs = true) (h2 : isNl c = false) (h : Tk n .ws "" false r s' t' q' r') : Tk (n + 1) .ws "" false (c :: r) s' t' q' r' := Tk.wsI ⟨h2, fun _ => ⟨e_tok0, rfl, h⟩, no0 h1⟩
theorem Tk.ws_word (h1 : inS c sWs = false) (h2 : isNl c = false) (h4 : inS c sEs = false) (h5 : inS c wcs = true) (h : Tk n .a (one c) q r s' t' q' r') : Tk (n + 1) .ws tok q (c :: r) s' t' q' r' :=
  Tk.wsI ⟨h2, no1 h1, fun _ => ⟨h4, fun _ => h, no0 h5⟩⟩
theorem Tk.ws_quote (h1 : inS c sWs = false) (h2 : isNl c = false) (h4 : inS c sEs = false) (h5 : inS c wcs = false) (h6 : inS c sQu = true) (h : Tk n (.q c) tok q r s' t' q' r') :
    Tk (n + 1) .ws tok q (c :: r) s' t' q' r' := Tk.wsI ⟨h2, no1 h1, fun _ => ⟨h4, no1 h5, fun _ => ⟨fun _ => h, no0 h6⟩⟩⟩
theorem Tk.ws_other (h1 : inS c sWs = false) (h2 : isNl c = false) (h4 : inS c sEs = false) (h5 : inS c wcs = false) (h6 : inS c sQu = false) (h : Tk n .a (one c) q r s' t' q' r') :
    Tk (n + 1) .ws tok q (c :: r) s' t' q' r' := Tk.wsI ⟨h2, no1 h1, fun _ => ⟨h4, no1 h5, fun _ => ⟨no1 h6, fun _ => h⟩⟩⟩
theorem Tk.q_close (h1 : (one c == nStr " ") = false) (h2 : inS c sQu = true) (h3 : isNl c = false) (h4 : (one c == one c) = true) (h : Tk n .a tok true r s' t' q' r') : Tk (n + 1) (.q c) tok q (c :: r) s' t' q' r' :=
  Tk.qI ⟨h3, h1, h2, fun _ => h, no0 h4⟩
theorem Tk.q_char (h1 : (one d == nStr " ") = false) (h2 : inS d sQu = true) (h3 : isNl c = false) (h4 : (one c == one d) = false) (h5 : inS c sEs = false) (h : Tk n (.q d) (tok ++ one c) true r s' t' q' r') :
    Tk (n + 1) (.q d) tok q (c :: r) s' t' q' r' := Tk.qI ⟨h3, h1, h2, no1 h4, fun _ => ⟨h5, h⟩⟩
theorem Tk.a_blank (h1 : inS c sWs = true) (h2 : isNl c = false) (h3 : ((tok.length : Int) != 0) = true) : Tk (n + 1) .a tok q (c :: r) .ws tok q r :=
  Tk.aI ⟨h2, fun _ => ⟨⟨rfl, rfl, rfl, rfl⟩, no0 h3⟩, no0 h1⟩
theorem Tk.a_blank_q (h1 : inS c sWs = true) (h2 : isNl c = false) : Tk (n + 1) .a tok true (c :: r) .ws tok true r :=
  Tk.aI ⟨h2, fun _ => ⟨⟨rfl, rfl, rfl, rfl⟩, fun _ => rfl⟩, no0 h1⟩
theorem Tk.a_quote (h1 : inS c sWs = false) (h2 : isNl c = false) (h4 : inS c sQu = true) (h : Tk n (.q c) tok q r s' t' q' r') : Tk (n + 1) .a tok q (c :: r) s' t' q' r' :=
  Tk.aI ⟨h2, no1 h1, fun _ => ⟨fun _ => h, no0 h4⟩⟩
theorem Tk.a_char (h1 : inS c sWs = false) (h2 : isNl c = false) (h4 : inS c sQu = false) (h5 : inS c sEs = false) (h : Tk n .a (tok ++ one c) q r s' t' q' r') : Tk (n + 1) .a tok q (c :: r) s' t' q' r' :=
  Tk.aI ⟨h2, no1 h1, fun _ => ⟨no1 h4, fun _ => ⟨h5, h⟩⟩⟩
end
theorem sel_by {c : Bool} {a b : Prop} (ht : c = true → a) (hf : c = false → b) : Sel c a b := ⟨ht, hf⟩
theorem sel_r {c : Bool} {a b : Prop} (k : a → b) (h : a) : Sel c a b := ⟨fun _ => h, fun _ => k h⟩

section
variable {w : World} {pg : Program} {loose : List Str} {mg mb : Str → Option Value} {F : Fm} {E : Value → Shared → Prop} {lc : Lc} {ob ob' : List (Addr × AO)}
theorem cLex : ClsTab (KH w.params) 806 ["instream", "infile", "posix", "eof", "commenters", "wordchars", "whitespace", "whitespace_split", "quotes", "escape", "escapedquotes", "state", "pushback", "lineno", "debug", "token", "filestack", "source", "_punctuation_chars"] [("get_token", 767), ("read_token", 774)] := ⟨by kernel_rfl⟩

theorem t_punct (O : FmOk (W2 w pg loose mg mb) F) (C : CallOk F) (hr : 2 ≤ F.room) {a d si pb fs : Addr} {split : Bool} {com tok : Str} {st : Value} {n : Int} (hm : (a, lexO d si pb fs split com st tok n) ∈ ob) {P : Value → AS → Prop} (h : P (.str "" 0) ⟨lc, ob⟩) :
    GetA (W2 w pg loose mg mb) F E ⟨lc, ob⟩ (.ref a) "punctuation_chars" P := by
  refine g_prop (fget := 737) O hm (by kernel_rfl) fun E' => ?_
  refine' c_code (nb := [("self", .ref a)]) (ps := ["self"]) (others := []) (O.in1 (by omega)) C.in1 (ho := ?ho) (hcd := ?hcd) (hb := ?hb) (hps := ?hps) (hn := ?hn) (hroom := by show 1 ≤ F.room - 1; omega) (hnf := ?hnf) (hbody := ?hbody) ?_ ?_ ?_
  krn_off
  case hb =>
    exact binds_10 (f := fun a => [("self", a)]) (g := fun a => [("self", a)]) (fun a S => by kernel_rfl) (fun _ => rfl)
  intro F' E' O' C' hr' hs hE hL
  have G : Globs (W2 w pg loose mg mb) F' [] := globs_of hs (by kernel_rfl)
  clear hs O C
  have S : ClsTab (W2 w pg loose mg mb).K _ _ _ := cLex (w := w)
  simp only [List.map_cons, List.map_nil, List.cons_append, List.nil_append]
  kcj_in
  exact ⟨rfl, h⟩

end
end
local macro_rules | `(tactic| kd_p) => do
  let t ← tq "rmx A A W"
  `(tactic| first | $t:tactic | omega)
section
section
variable {w : World} {pg : Program} {loose : List Str} {mg mb : Str → Option Value} {F : Fm} {E : Value → Shared → Prop} {lc : Lc} {ob ob' : List (Addr × AO)}
end
end
local macro_rules | `(tactic| kcf_all) => do
  let t ← tq "t_punct A A P M _|t_read1 A A P A A R _|t_read_end A A P A A M _"
  `(tactic| with_reducible $t:tactic)
section
section
variable {w : World} {pg : Program} {loose : List Str} {mg mb : Str → Option Value} {F : Fm} {E : Value → Shared → Prop} {lc : Lc} {ob ob' : List (Addr × AO)}
theorem drop_cons {x : Str} {k c : Nat} {r : List Nat} (h : x.cps.toList.drop k = c :: r) : x.cps[k]? = some c ∧ x.cps.toList.drop (k + 1) = r ∧ k < x.length := by
  have h1 : x.cps.toList[k]? = some c := by
    have := congrArg (·[0]?) h
    simpa [List.getElem?_drop] using this
  refine ⟨by simpa using h1, ?_, ?_⟩
  · have := congrArg (List.drop 1) h
    simpa [List.drop_drop, Nat.add_comm] using this
  · have := (List.getElem?_eq_some_iff.mp h1).1
    simpa [Str.length] using this
theorem drop_nil {x : Str} {k : Nat} (h : x.cps.toList.drop k = []) : x.length ≤ k := by
  simpa [Str.length] using h
noncomputable def resV (q : Bool) (tok : Str) : Value := if !q && tok == nStr "" then .none else .str tok 0

noncomputable abbrev rtS (lx dl si di pb fs : Addr) (x : Str) (st : St) (tok : Str) (q : Bool) (k : Nat) (ln : Int) (nc : Option Value) : AS :=
  ⟨[("self", some (.ref lx)), ("quoted", some (.bool q)), ("escapedstate", some (.str " " 0)), ("nextchar", nc), ("result", none)], [(lx, lexO dl si pb fs true cm0 st.val tok ln), (si, sio di x k)]⟩
noncomputable def rtI (lx dl si di pb fs : Addr) (x : Str) (st' : St) (tok' : Str) (q' : Bool) (r' : List Nat) (N : Nat) (σ : AS) : Prop :=
  ∃ st tok q k ln nc, Tk N st tok q (x.cps.toList.drop k) st' tok' q' r' ∧ k ≤ x.length ∧ tok.length ≤ k ∧ σ = rtS lx dl si di pb fs x st tok q k ln nc
noncomputable def rtJ (lx dl si di pb fs : Addr) (x : Str) (st' : St) (tok' : Str) (q' : Bool) (r' : List Nat) (σ : AS) : Prop :=
  st'.isBad = false ∧ ∃ k ln nc, x.cps.toList.drop k = r' ∧ k ≤ x.length ∧ tok'.length ≤ k ∧ σ = rtS lx dl si di pb fs x st' tok' q' k ln nc
theorem rtI.of {lx dl si di pb fs : Addr} {x : Str} {st' : St} {tok' : Str} {q' : Bool} {r' : List Nat} {N : Nat} {st : St} {tok : Str} {q : Bool} {k : Nat} {ln : Int} {nc : Option Value} {r : List Nat}
    (hr : x.cps.toList.drop k = r) (hT : Tk N st tok q r st' tok' q' r') (hk : k ≤ x.length) (ht : tok.length ≤ k) : rtI lx dl si di pb fs x st' tok' q' r' N (rtS lx dl si di pb fs x st tok q k ln nc) :=
  ⟨st, tok, q, k, ln, nc, by rw [hr]; exact hT, hk, ht, rfl⟩
theorem rtJ.ofE {lx dl si di pb fs : Addr} {x : Str} {st' s : St} {tok' tok : Str} {q' q : Bool} {r' r : List Nat} {k : Nat} {ln : Int} {nc : Option Value} (e : EndsW st' tok' q' r' s tok q r)
    (hr : x.cps.toList.drop k = r) (hk : k ≤ x.length) (ht : tok.length ≤ k) (hb : s.isBad = false := by rfl) : rtJ lx dl si di pb fs x st' tok' q' r' (rtS lx dl si di pb fs x s tok q k ln nc) := by
  obtain ⟨rfl, rfl, rfl, rfl⟩ := e
  exact ⟨hb, k, ln, nc, hr, hk, ht, rfl⟩
theorem t_read_token (O : FmOk (W2 w pg loose mg mb) F) (C : CallOk F) (hr : 4 ≤ F.room) {lx dl si di pb fs : Addr} {x : Str} {st st' : St} {tok' : Str} {q' : Bool} {r' : List Nat} {k N : Nat} {ln : Int} (hz : x.length ≤ 1000000) (hk : k ≤ x.length)
    (hT : Tk N st "" false (x.cps.toList.drop k) st' tok' q' r') {P : Value → AS → Prop}
    (h : st'.isBad = false → ∀ k' ln', k' ≤ x.length → x.cps.toList.drop k' = r' → tok'.length ≤ k' → P (resV q' tok') ⟨lc, [(lx, lexO dl si pb fs true cm0 st'.val "" ln'), (si, sio di x k')]⟩)
    (hbad : st' = .bad → ∀ sv tv (k' : Nat) ln' e s', Exc F (.type "ValueError") ⟨lc, [(lx, lexO dl si pb fs true cm0 sv tv ln'), (si, sio di x k')]⟩ e s' → E e s') :
    CallF (W2 w pg loose mg mb) F E ⟨lc, [(lx, lexO dl si pb fs true cm0 st.val "" ln), (si, sio di x k)]⟩ (.ref 774) [.ref lx] [] P := by
  refine' c_fn (nb := [("self", .ref lx)]) (ps := ["self"]) (others := ["quoted", "escapedstate", "nextchar", "result"]) O C (ho := ?ho) (hcd := ?hcd) (hb := ?hb) (hps := ?hps) (hn := ?hn) (hroom := rm1 hr rfl) (hnf := ?hnf) (hbody := ?hbody) ?_ ?_ ?_
  krn_off
  case hb =>
    exact binds_10 (f := fun a => [("self", a)]) (g := fun a => [("self", a)]) (fun a S => by kernel_rfl) (fun _ => rfl)
  intro F' E' O' C' hr' hs hE hL
  have G : Globs (W2 w pg loose mg mb) F' [("ValueError", .type "ValueError")] := globs_of hs (by kernel_rfl)
  have hL := hL (by kernel_rfl)
  clear hs O C
  have S : ClsTab (W2 w pg loose mg mb).K _ _ _ := cLex (w := w)
  have S' : ClsTab (W2 w pg loose mg mb).K _ _ _ := cSio (w := w)
  simp only [List.map_cons, List.map_nil, List.cons_append, List.nil_append]
  kcj_in
  refine s_whileJ hE (rtI lx dl si di pb fs x st' tok' q' r') (rtJ lx dl si di pb fs x st' tok' q' r') ?turn ?fin N (rtI.of rfl hT hk (Nat.zero_le _))
  case fin =>
    rintro σ ⟨hb, k, ln, nc, h1, h2, h3, rfl⟩
    have h := h hb k ln h2 h1 h3
    cases q' with
    | true =>
      kcj_in
      exact h
    | false =>
      cases htok : (tok' == nStr "") with
      | true =>
        rw [show resV false tok' = .none from by simp only [resV, htok]; rfl] at h
        kcj_in
        exact h
      | false =>
        rw [show resV false tok' = .str tok' 0 from by simp only [resV, htok]; rfl] at h
        kcj_in
        exact h
  case turn =>
    rintro N σ ⟨st, tok, q, k, ln, nc, hT, hk, ht, rfl⟩
    clear h
    have hts : tok.length ≤ sizeLine := by rw [sizeLine_eq]; omega
    have hadd : ∀ c, tok.length + (one c).length ≤ sizeLine := fun c => by
      rw [sizeLine_eq]; show tok.length + 1 ≤ _; omega
    obtain ⟨n, rfl⟩ := hT.pos
    generalize hR : x.cps.toList.drop k = R at hT
    cases R with
    | nil =>
      have hn := drop_nil hR
      kcj_in
      cases st with
      | bad => exact False.elim hT
      | none =>
        kcj_in
        exact wh_brk (rtJ.ofE hT.none_nil hR hk (Nat.zero_le _))
      | ws =>
        kcj_in
        exact wh_brk (rtJ.ofE hT.ws_nil hR hk ht)
      | a =>
        kcj_in
        exact wh_brk (rtJ.ofE hT.a_nil hR hk ht)
      | q d =>
        have h3 := hT.q_nil.1
        have h4 := hT.q_nil.2.1
        kcj_in
        refine s_raise_ve O' G (by kcj_m) ?_
        kcj_in
        intro e s' hf
        exact hL _ _ _ _ hf fun e s'' hx => hbad hT.q_nil.2.2.1 _ _ _ _ _ _ hx
    | cons c r =>
      have hc := (drop_cons hR).1
      have hR' := (drop_cons hR).2.1
      have hlt := (drop_cons hR).2.2
      have h2 : isNl c = false := hT.noNl
      have hcm := inS_nil c
      kcj_in
      cases st with
      | none => exact False.elim hT
      | bad => exact False.elim hT
      | ws =>
        have hI := hT.ws_i.2
        kcj_in
        refine sel_by (fun (h1 : inS c sWs = true) => ?_) (fun (h1 : inS c sWs = false) => ?_)
        · have h3 := (hI.1 h1).1
          have h4 := (hI.1 h1).2.1
          kcj_in
          exact wh_cont (rtI.of hR' (hI.1 h1).2.2 hlt (Nat.le_succ_of_le ht)) (Nat.lt_succ_self _)
        · replace hI := hI.2 h1
          have h4 := hI.1
          replace hI := hI.2
          kcj_in
          refine sel_by (fun (h5 : inS c wcs = true) => ?_) (fun (h5 : inS c wcs = false) => ?_)
          · kcj_in
            exact wh_next (rtI.of hR' (hI.1 h5) hlt (Nat.le_add_left _ _)) (Nat.lt_succ_self _)
          · replace hI := hI.2 h5
            kcj_in
            refine sel_by (fun (h6 : inS c sQu = true) => ?_) (fun (h6 : inS c sQu = false) => ?_)
            · kcj_in
              exact wh_next (rtI.of hR' (hI.1 h6) hlt (Nat.le_succ_of_le ht)) (Nat.lt_succ_self _)
            · kcj_in
              exact wh_next (rtI.of hR' (hI.2 h6) hlt (Nat.le_add_left _ _)) (Nat.lt_succ_self _)
      | a =>
        have hI := hT.a_i.2
        kcj_in
        refine sel_by (fun (h1 : inS c sWs = true) => ?_) (fun (h1 : inS c sWs = false) => ?_)
        · kcj_in
          refine sel_by (fun h3 => ?_) (fun h3 => ?_)
          · kcj_in
            exact wh_brk (rtJ.ofE (hI.1 h1).1 hR' hlt (Nat.le_succ_of_le ht))
          · have hq := (hI.1 h1).2 h3
            kcj_in
            exact wh_brk (rtJ.ofE (hI.1 h1).1 hR' hlt (Nat.le_succ_of_le ht))
        · replace hI := hI.2 h1
          kcj_in
          cases h5 : inS c sQu with
          | true =>
            kcj_in
            exact wh_next (rtI.of hR' (hI.1 h5) hlt (Nat.le_succ_of_le ht)) (Nat.lt_succ_self _)
          | false =>
            have h4 := (hI.2 h5).1
            kcj_in
            refine sel_r (fun hb => ?_) ?_
            · repeat (first | (with_reducible assumption) | ((with_reducible fail_if_success refine go_i ?_); (first | tb_start | kcf_all | lcg_off)) | lcg_sub)
            kcj_in
            refine o_iadd_str (hadd _) ?_
            kcj_in
            exact wh_next (rtI.of hR' (hI.2 h5).2 hlt (by rw [Str.length_append]; exact Nat.add_le_add ht (Nat.le_refl 1))) (Nat.lt_succ_self _)
      | q d =>
        have hI := hT.q_i.2
        have h3 := hI.1
        have h4 := hI.2.1
        kcj_in
        refine sel_by (fun h5 => ?_) (fun h5 => ?_)
        · kcj_in
          exact wh_next (rtI.of hR' (hI.2.2.1 h5) hlt (Nat.le_succ_of_le ht)) (Nat.lt_succ_self _)
        · have h6 := (hI.2.2.2 h5).1
          kcj_in
          refine o_iadd_str (hadd _) ?_
          kcj_in
          exact wh_next (rtI.of hR' (hI.2.2.2 h5).2 hlt (by rw [Str.length_append]; exact Nat.add_le_add ht (Nat.le_refl 1))) (Nat.lt_succ_self _)
end

end
/-! text U4 -/
section
end
local macro_rules | `(tactic| lcg_off) => do
  let t ← tq "x_eq_nn _|x_eq_sn _|r_dq M _"
  `(tactic| with_reducible $t:tactic)
section

section
variable {w : World} {pg : Program} {loose : List Str} {mg mb : Str → Option Value} {F : Fm} {E : Value → Shared → Prop} {lc : Lc} {ob ob' : List (Addr × AO)}

theorem wh_ret {n : Nat} {I : Nat → AS → Prop} {J : AS → Prop} {R : Flow → AS → Prop} {v : Value} {σ : AS} (h : R (.ret v) σ) : Wh n I J R (.ret v) σ := h
noncomputable abbrev L4 (lx dl si di pb fs : Addr) (x : Str) (st : Value) (ln : Int) (k : Nat) : List (Addr × AO) :=
  [(lx, lexO dl si pb fs true cm0 st "" ln), (si, sio di x k), (pb, dq), (fs, dq)]
noncomputable abbrev L4b (lx dl si di pb fs : Addr) (x : Str) (sv : Value) (tv : Str) (ln : Int) (k : Nat) : List (Addr × AO) :=
  [(lx, lexO dl si pb fs true cm0 sv tv ln), (si, sio di x k), (pb, dq), (fs, dq)]
noncomputable def isEof (q : Bool) (tok : Str) : Bool := !q && tok == nStr ""

theorem t_get_token (O : FmOk (W2 w pg loose mg mb) F) (C : CallOk F) (hr : 5 ≤ F.room) {lx dl si di pb fs : Addr} {x : Str} {st st' : St} {tok' : Str} {q' : Bool} {r' : List Nat} {k N : Nat} {ln : Int} (hz : x.length ≤ 1000000) (hk : k ≤ x.length)
    (hT : Tk N st "" false (x.cps.toList.drop k) st' tok' q' r') {P : Value → AS → Prop}
    (h : st'.isBad = false → ∀ k' ln', k' ≤ x.length → x.cps.toList.drop k' = r' → tok'.length ≤ k' → P (resV q' tok') ⟨lc, L4 lx dl si di pb fs x st'.val ln' k'⟩)
    (hbad : st' = .bad → ∀ sv tv (k' : Nat) ln' e s', Exc F (.type "ValueError") ⟨lc, L4b lx dl si di pb fs x sv tv ln' k'⟩ e s' → E e s') :
    CallF (W2 w pg loose mg mb) F E ⟨lc, L4 lx dl si di pb fs x st.val ln k⟩ (.ref 767) [.ref lx] [] P := by
  refine' c_fn (nb := [("self", .ref lx)]) (ps := ["self"]) (others := ["tok", "raw", "spec", "newfile", "newstream"]) O C (ho := ?ho) (hcd := ?hcd) (hb := ?hb) (hps := ?hps) (hn := ?hn) (hroom := rm1 hr rfl) (hnf := ?hnf) (hbody := ?hbody) ?_ ?_ ?_
  krn_off
  case hb =>
    exact binds_10 (f := fun a => [("self", a)]) (g := fun a => [("self", a)]) (fun a S => by kernel_rfl) (fun _ => rfl)
  intro F' E' O' C' hr' hs hE hL
  have G : Globs (W2 w pg loose mg mb) F' [] := globs_of hs (by kernel_rfl)
  have hL := hL (by kernel_rfl)
  clear hs O C
  have S : ClsTab (W2 w pg loose mg mb).K _ _ _ := cLex (w := w)
  simp only [List.map_cons, List.map_nil, List.cons_append, List.nil_append]
  kcj_in
  refine CallF.aside (small := [_, _]) (fr := [_, _]) (.refl _) fun raws hx => t_read_token (O'.wr raws) (C'.wr raws) (show 4 ≤ F'.room from rmx hr' hr rfl) hz hk hT ?_ fun hb sv tv k' ln' e s' hexc => hL _ _ _ _ (.on (hx _ _ _ _ hexc)) fun e s'' hx' => hbad hb sv tv k' ln' e s'' hx'
  intro hb k' ln' h1 h2 h3
  have h := h hb k' ln' h1 h2 h3
  simp only [List.cons_append, List.nil_append]
  have hts : tok'.length ≤ sizeLine := by rw [sizeLine_eq]; omega
  generalize hres : resV q' tok' = res at h
  have hc : res = .none ∨ res = .str tok' 0 := by
    subst hres
    unfold resV
    split
    · exact .inl rfl
    · exact .inr rfl
  rcases hc with rfl | rfl
  · kcj_in
    refine s_whileJ hE (fun n σ => σ = ⟨[("self", some (.ref lx)), ("tok", none), ("raw", some .none), ("spec", none), ("newfile", none), ("newstream", none)], L4 lx dl si di pb fs x st'.val ln' k'⟩) (fun _ => False) ?_ (fun _ h => h.elim) 0 rfl
    rintro n σ rfl
    kcj_in
    refine wh_ret ?_
    exact h
  · kcj_in
    refine s_whileJ hE (fun n σ => σ = ⟨[("self", some (.ref lx)), ("tok", none), ("raw", some (.str tok' 0)), ("spec", none), ("newfile", none), ("newstream", none)], L4 lx dl si di pb fs x st'.val ln' k'⟩) (fun _ => False) ?_ (fun _ h => h.elim) 0 rfl
    rintro n σ rfl
    kcj_in
    exact h

theorem t_next_tok (O : FmOk (W2 w pg loose mg mb) F) (C : CallOk F) (hr : 6 ≤ F.room) {lx dl si di pb fs : Addr} {x : Str} {st st' : St} {tok' : Str} {q' : Bool} {r' : List Nat} {k N : Nat} {ln : Int} (hz : x.length ≤ 1000000) (hk : k ≤ x.length)
    (hT : Tk N st "" false (x.cps.toList.drop k) st' tok' q' r') (he : isEof q' tok' = false) (hb : st'.isBad = false) {P : Value → AS → Prop}
    (h : ∀ k' ln', k' ≤ x.length → x.cps.toList.drop k' = r' → P (.str tok' 0) ⟨lc, L4 lx dl si di pb fs x st'.val ln' k'⟩) :
    CodeF (W2 w pg loose mg mb) F E ⟨lc, L4 lx dl si di pb fs x st.val ln k⟩ (.ref 803) [.ref lx] [] P := by
  refine' c_code (nb := [("self", .ref lx)]) (ps := ["self"]) (others := ["token"]) O C (ho := ?ho) (hcd := ?hcd) (hb := ?hb) (hps := ?hps) (hn := ?hn) (hroom := rm1 hr rfl) (hnf := ?hnf) (hbody := ?hbody) ?_ ?_ ?_
  krn_off
  case hb =>
    exact binds_10 (f := fun a => [("self", a)]) (g := fun a => [("self", a)]) (fun a S => by kernel_rfl) (fun _ => rfl)
  intro F' E' O' C' hr' hs hE hL
  have G : Globs (W2 w pg loose mg mb) F' [("StopIteration", .type "StopIteration")] := globs_of hs (by kernel_rfl)
  clear hs O C
  have S : ClsTab (W2 w pg loose mg mb).K _ _ _ := cLex (w := w)
  simp only [List.map_cons, List.map_nil, List.cons_append, List.nil_append]
  kcj_in
  refine t_get_token O' C' (rmx hr' hr rfl) hz hk hT (fun _ k' ln' h1 h2 h3 => ?_) fun q => by rw [q] at hb; cases hb
  have h := h k' ln' h1 h2
  have he : (!q' && tok' == nStr "") = false := he
  rw [show resV q' tok' = .str tok' 0 from by unfold resV; rw [he]; rfl]
  kcj_in
  exact h

theorem t_next_stop (O : FmOk (W2 w pg loose mg mb) F) (C : CallOk F) (hr : 6 ≤ F.room) {lx dl si di pb fs : Addr} {x : Str} {st st' : St} {tok' : Str} {q' : Bool} {r' : List Nat} {k N : Nat} {ln : Int} (hz : x.length ≤ 1000000) (hk : k ≤ x.length)
    (hT : Tk N st "" false (x.cps.toList.drop k) st' tok' q' r') (he : isEof q' tok' = true) (hb : st'.isBad = false) {P : Value → AS → Prop}
    (h : ∀ k' ln' e s', Exc F (.type "StopIteration") ⟨lc, L4 lx dl si di pb fs x st'.val ln' k'⟩ e s' → E e s') :
    CodeF (W2 w pg loose mg mb) F E ⟨lc, L4 lx dl si di pb fs x st.val ln k⟩ (.ref 803) [.ref lx] [] P := by
  refine' c_code (nb := [("self", .ref lx)]) (ps := ["self"]) (others := ["token"]) O C (ho := ?ho) (hcd := ?hcd) (hb := ?hb) (hps := ?hps) (hn := ?hn) (hroom := rm1 hr rfl) (hnf := ?hnf) (hbody := ?hbody) ?_ ?_ ?_
  krn_off
  case hb =>
    exact binds_10 (f := fun a => [("self", a)]) (g := fun a => [("self", a)]) (fun a S => by kernel_rfl) (fun _ => rfl)
  intro F' E' O' C' hr' hs hE hL
  have G : Globs (W2 w pg loose mg mb) F' [("StopIteration", .type "StopIteration")] := globs_of hs (by kernel_rfl)
  have hL := hL (by kernel_rfl)
  clear hs O C
  have S : ClsTab (W2 w pg loose mg mb).K _ _ _ := cLex (w := w)
  simp only [List.map_cons, List.map_nil, List.cons_append, List.nil_append]
  kcj_in
  refine t_get_token O' C' (rmx hr' hr rfl) hz hk hT (fun _ k' ln' h1 h2 h3 => ?_) fun q => by rw [q] at hb; cases hb
  have h := h k' ln'
  have he : (!q' && tok' == nStr "") = true := he
  rw [show resV q' tok' = .none from by unfold resV; rw [he]; rfl]
  kcj_in
  refine s_raise_si O' G (by kcj_m) fun e s' hf => hL _ _ _ _ hf fun e s'' hx => h e s'' hx

theorem t_next_bad (O : FmOk (W2 w pg loose mg mb) F) (C : CallOk F) (hr : 6 ≤ F.room) {lx dl si di pb fs : Addr} {x : Str} {st : St} {tok' : Str} {q' : Bool} {r' : List Nat} {k N : Nat} {ln : Int} (hz : x.length ≤ 1000000) (hk : k ≤ x.length)
    (hT : Tk N st "" false (x.cps.toList.drop k) .bad tok' q' r') {P : Value → AS → Prop}
    (h : ∀ sv tv (k' : Nat) ln' e s', Exc F (.type "ValueError") ⟨lc, L4b lx dl si di pb fs x sv tv ln' k'⟩ e s' → E e s') :
    CodeF (W2 w pg loose mg mb) F E ⟨lc, L4 lx dl si di pb fs x st.val ln k⟩ (.ref 803) [.ref lx] [] P := by
  refine' c_code (nb := [("self", .ref lx)]) (ps := ["self"]) (others := ["token"]) O C (ho := ?ho) (hcd := ?hcd) (hb := ?hb) (hps := ?hps) (hn := ?hn) (hroom := rm1 hr rfl) (hnf := ?hnf) (hbody := ?hbody) ?_ ?_ ?_
  krn_off
  case hb =>
    exact binds_10 (f := fun a => [("self", a)]) (g := fun a => [("self", a)]) (fun a S => by kernel_rfl) (fun _ => rfl)
  intro F' E' O' C' hr' hs hE hL
  have hL := hL (by kernel_rfl)
  clear hs O C
  have S : ClsTab (W2 w pg loose mg mb).K _ _ _ := cLex (w := w)
  simp only [List.map_cons, List.map_nil, List.cons_append, List.nil_append]
  kcj_in
  exact t_get_token O' C' (rmx hr' hr rfl) hz hk hT (fun q => nomatch q) fun _ sv tv k' ln' e s' hx => hL _ _ _ _ (.on hx) fun e s'' hx' => h sv tv k' ln' e s'' hx'

theorem t_iter (O : FmOk (W2 w pg loose mg mb) F) (C : CallOk F) (hr : 1 ≤ F.room) {lx : Addr} {P : Value → AS → Prop} (h : P (.ref lx) ⟨lc, ob⟩) : CodeF (W2 w pg loose mg mb) F E ⟨lc, ob⟩ (.ref 796) [.ref lx] [] P := by
  refine' c_code (nb := [("self", .ref lx)]) (ps := ["self"]) (others := []) O C (ho := ?ho) (hcd := ?hcd) (hb := ?hb) (hps := ?hps) (hn := ?hn) (hroom := rm1 hr rfl) (hnf := ?hnf) (hbody := ?hbody) ?_ ?_ ?_
  krn_off
  case hb =>
    exact binds_10 (f := fun a => [("self", a)]) (g := fun a => [("self", a)]) (fun a S => by kernel_rfl) (fun _ => rfl)
  intro F' E' O' C' hr' hs hE hL
  clear hs O C
  have G : Globs (W2 w pg loose mg mb) F' [] := fun p hp => nomatch hp
  simp only [List.map_cons, List.map_nil, List.cons_append, List.nil_append]
  kcj_in
  exact h
end

end
/-! text U5 -/
section

theorem binds2 {W : Wd} {F : Fm} (O : FmOk W F) {σ : AS} {fd : FuncData} {rvs : List Value} {rkw : List (Str × Value)} {o₁ o₂ : Obj} {binds : Addr → Addr → List (Str × Value)} (h1 : o₁.isFreed = false) (h2 : o₂.isFreed = false)
    (e : ∀ S C D, (peekA W.K S (bindArgs fd ⟨rvs, rkw⟩)).bind (fun p => (peekA W.K S (p.2 C)).bind fun q => (peek W.K S (q.2 D)).map fun b => (p.1, q.1, b)) = some (o₁, o₂, binds C D)) {NB : Fl → Prop} (hNB : ∀ C D, NB (nk (binds C D)))
    {s : Shared} {m : Mp} {news : List (Addr × Obj)} (R : Rep F σ s m news) {A' : Around} {E' : Value → Shared → Prop} {Q : List (Str × Value) → Shared → Prop}
    (k : ∀ h' t add binds, NB (nk binds) → Fr m.g F.env.locals h' m.m → News m.g F.env.locals h' (add ++ news) → Q binds { s with heap := h', toks := t }) : wpAny (model W.prog W.w) A' (bindArgs fd ⟨rvs, rkw⟩) Q E' s := by
  have X := (R.X O).keeps R.fr.keep
  have e' := e ⟨(model W.prog W.w).prog, (model W.prog W.w).w.params⟩
  generalize ht : peekA W.K ⟨(model W.prog W.w).prog, (model W.prog W.w).w.params⟩ (bindArgs fd ⟨rvs, rkw⟩) = r at e'
  match r, e' with
  | none, e' => exact absurd (e' 0 0) (by simp)
  | some (o, g), e' =>
    have ho : o = o₁ := by
      have := e' 0 0
      simp only [Option.bind_some] at this
      obtain ⟨q, _, hq⟩ := Option.bind_eq_some_iff.mp this
      obtain ⟨b, _, hb⟩ := Option.map_eq_some_iff.mp hq
      exact congrArg (·.1) hb
    subst ho
    refine wp_of_peekA R.fr R.nw X h1 _ g ht fun h' F' N' l => ?_
    have e2 := e' s.heap.objs.size
    simp only [Option.bind_some] at e2
    generalize ht2 : peekA W.K ⟨(model W.prog W.w).prog, (model W.prog W.w).w.params⟩ (g s.heap.objs.size) = r2 at e2
    match r2, e2 with
    | none, e2 => exact absurd (e2 0) (by simp)
    | some (o', g'), e2 =>
      have ho : o' = o₂ := by
        have := e2 0
        simp only [Option.bind_some] at this
        obtain ⟨b, _, hb⟩ := Option.map_eq_some_iff.mp this
        exact congrArg (·.2.1) hb
      subst ho
      refine wp_of_peekA (s := { s with heap := h' }) F' N' ((R.X O).keeps F'.keep) h2 _ g' ht2 fun h'' F'' N'' l' => ?_
      have e3 := e2 h'.objs.size
      simp only [Option.bind_some] at e3
      obtain ⟨b, hb, hb'⟩ := Option.map_eq_some_iff.mp e3
      have hbb : b = binds s.heap.objs.size h'.objs.size := congrArg (·.2.2) hb'
      subst hbb
      exact (Looks.of_peek (M := model W.prog W.w) (h := h'') ((R.X O).keeps F''.keep) hb).here (s := { s with heap := h'' }) (k h'' s.toks [(h'.objs.size, o'), (s.heap.objs.size, o)] _ (hNB _ _) F'' N'')

theorem m_type {W : Wd} {F : Fm} {E : Value → Shared → Prop} {σ : AS} (O : FmOk W F) {T : String} {n : Str} {v : Value} {P : Value → List Value → AS → Prop} (ht : typeOf (.type T) = pure (.type "type")) (hs : Manifest.isStub T = false)
    (e : findCls W.K (.type T) (.type "type") n = some (.val v)) (hh : handedIn v = true) (h : P (nv v) [] σ) : Meth W F E σ (.type T) n P := fun vo pl ho s m news R => by
  obtain rfl := nv_type ho
  exact method_type R.fr (R.X O) ht hs e hh ⟨σ, m, news, h, R.tok _⟩
section
variable {w : World} {pg : Program} {loose : List Str} {mg mb : Str → Option Value} {F : Fm} {E : Value → Shared → Prop} {lc : Lc} {ob ob' : List (Addr × AO)}

theorem nSio : OwnNew (KH w.params) 671 164 := ⟨by kernel_rfl, fun S => by kernel_rfl, fun S => by kernel_rfl, by kernel_rfl, by kernel_rfl, by kernel_rfl, by kernel_rfl, by kernel_rfl, by kernel_rfl, ⟨168, [], by kernel_rfl, by kernel_rfl⟩⟩

theorem t_ionew (O : FmOk (W2 w pg loose mg mb) F) (C : CallOk F) (hr : 1 ≤ F.room) {v : Value} {P : Value → AS → Prop} (h : ∀ x dx, P (.ref x) ⟨lc, (x, .inst 671 dx []) :: ob⟩) :
    CallF (W2 w pg loose mg mb) F E ⟨lc, ob⟩ (.ref 164) [.ref 671, v] [] P := by
  refine CodeF.call ?_
  refine' c_gen (NB := fun nb => ∃ c d, nb = ([("cls", .ref 671), ("args", .ref c), ("kwargs", .ref d)] : Fl)) (ps := ["cls", "args", "kwargs"]) (others := []) O C (ho := ?ho) (hcd := ?hcd) (hb := ?hb) (hps := ?hps) (hn := ?hn) (hroom := rm1 hr rfl) (hnf := ?hnf) (hbody := ?hbody) ?_ ?_ ?_
  case hps => rintro nb ⟨c, d, rfl⟩; rfl
  case ho => exact rfl
  case hcd => kernel_rfl
  case hn => kernel_rfl
  case hnf => kernel_rfl
  case hb =>
    intro rvs rkw q1 q2 s m news R A' E' Q k
    obtain ⟨a, b, rfl, qa, qb⟩ := map2 q1
    obtain rfl := nk0 q2
    obtain rfl := nv_ref qa
    refine binds2 O (NB := fun nb => ∃ c d, nb = ([("cls", .ref 671), ("args", .ref c), ("kwargs", .ref d)] : Fl)) (o₁ := { cls := .type "tuple", data := .seq #[b] }) (o₂ := dictOf [] 0) (binds := fun C D => [("cls", .ref 671), ("args", .ref C), ("kwargs", .ref D)]) rfl rfl (fun S C D => by kernel_rfl) (fun C D => ⟨C, D, rfl⟩) R k
  case hbody =>
    rintro nb ⟨c, d, rfl⟩ F' E' O' C' hr' hs hE hL
    have G : Globs (W2 w pg loose mg mb) F' [("BytesIO", .ref 424), ("StringIO", .ref 671), ("object", .type "object")] := globs_of hs (by kernel_rfl)
    clear hs O C
    simp only [List.map_cons, List.map_nil, List.cons_append, List.nil_append]
    kcj_in
    refine x_isnot_k O' rfl rfl (by rfl) (by kernel_rfl) ?_
    kcj_in
    refine x_isnot_self ?_
    kcj_in
    refine m_type O' (v := .builtin "object.__new__") (by rfl) (by decide +kernel) (by kernel_rfl) (by rfl) ?_
    kcj_in
    refine f_objnew O' (nSio (w := w)) fun x dx => ?_
    kcj_in
    exact h x dx
  all_goals exact rfl

theorem t_translated (O : FmOk (W2 w pg loose mg mb) F) (C : CallOk F) (hr : 1 ≤ F.room) {i d : Addr} {x : Str} (hm : (i, .inst 671 d [("_StringIO__newline", .str "\n" 0), ("_StringIO__buf", .str "" 0), ("_StringIO__pos", .int 0 0)]) ∈ ob) {P : Value → AS → Prop} (h : P (.str x 0) ⟨lc, ob⟩) :
    CallF (W2 w pg loose mg mb) F E ⟨lc, ob⟩ (.ref 448) [.ref i, .str x 0] [] P := by
  refine' c_fn (nb := [("self", .ref i), ("s", .str x 0)]) (ps := ["self", "s"]) (others := ["newline"]) O C (ho := ?ho) (hcd := ?hcd) (hb := ?hb) (hps := ?hps) (hn := ?hn) (hroom := rm1 hr rfl) (hnf := ?hnf) (hbody := ?hbody) ?_ ?_ ?_
  krn_off
  case hb =>
    exact binds_20 (f := fun a b => [("self", a), ("s", b)]) (g := fun a b => [("self", a), ("s", b)]) (fun a b S => by kernel_rfl) (fun _ _ => rfl)
  intro F' E' O' C' hr' hs hE hL
  have G : Globs (W2 w pg loose mg mb) F' [] := fun p hp => nomatch hp
  clear hs O C
  have S : ClsTab (W2 w pg loose mg mb).K _ _ _ := cSio (w := w)
  simp only [List.map_cons, List.map_nil, List.cons_append, List.nil_append]
  kcj_in
  exact h

theorem t_sioinit (O : FmOk (W2 w pg loose mg mb) F) (C : CallOk F) (hr : 2 ≤ F.room) {i d : Addr} {x : Str} {P : Value → AS → Prop} (h : P .none ⟨lc, (i, sio d x 0) :: ob⟩) :
    CallF (W2 w pg loose mg mb) F E ⟨lc, (i, .inst 671 d []) :: ob⟩ (.ref 441) [.ref i, .str x 0] [] P := by
  refine' c_fn (nb := [("self", .ref i), ("initial_value", .str x 0), ("newline", .str "\n" 0)]) (ps := ["self", "initial_value", "newline"]) (others := []) O C (ho := ?ho) (hcd := ?hcd) (hb := ?hb) (hps := ?hps) (hn := ?hn) (hroom := rm1 hr rfl) (hnf := ?hnf) (hbody := ?hbody) ?_ ?_ ?_
  krn_off
  case hb =>
    exact binds_20 (f := fun a b => [("self", a), ("initial_value", b), ("newline", .str "\n" 863)]) (g := fun a b => [("self", a), ("initial_value", b), ("newline", .str "\n" 0)]) (fun a b S => by kernel_rfl) (fun _ _ => rfl)
  intro F' E' O' C' hr' hs hE hL
  have G : Globs (W2 w pg loose mg mb) F' [("type", .type "type"), ("str", .type "str")] := globs_of hs (by kernel_rfl)
  clear hs O C
  have S : ClsTab (W2 w pg loose mg mb).K _ _ _ := cSio (w := w)
  simp only [List.map_cons, List.map_nil, List.cons_append, List.nil_append]
  kcj_in
  refine t_translated O' C' (rmx hr' hr rfl) (by kcj_m) ?_
  kcj_in
  exact h
end

end
/-! text U6 -/
section

section
variable {W : Wd} {F : Fm} {E : Value → Shared → Prop} {σ : AS}
theorem f_isi {v : Value} {T : String} {P : Value → AS → Prop} (hn : tyName v = some T) (hty : typeOf (.type T) = pure (.type "type")) (hsub : isSubtype (.type T) (.type T) = pure true) (h : P (.bool true) σ) : CallF W F E σ (.builtin "isinstance") [v, .type T] [] P := fun rf rvs rkw h1 h2 h3 s m news R => by
  obtain rfl := nv_builtin h1
  obtain ⟨x, y, rfl, q1, q2⟩ := map2 h2
  obtain rfl := nv_type q2
  obtain rfl := nk0 h3
  subst q1
  refine call_isinstance (isinstance_true hty hsub) ⟨?_, ⟨σ, m, news, h, R⟩⟩
  cases x <;> first | cases hn | skip
  all_goals exact rfl
end
section
variable {w : World} {pg : Program} {loose : List Str} {mg mb : Str → Option Value} {F : Fm} {E : Value → Shared → Prop} {lc : Lc} {ob ob' : List (Addr × AO)}

theorem t_sio (O : FmOk (W2 w pg loose mg mb) F) (C : CallOk F) (hr : 4 ≤ F.room) {x : Str} {P : Value → AS → Prop} (h : ∀ i d, P (.ref i) ⟨lc, (i, sio d x 0) :: ob⟩) : CallF (W2 w pg loose mg mb) F E ⟨lc, ob⟩ (.ref 671) [.str x 0] [] P := by
  refine c_own O C (by omega) (nSio (w := w)) (fI := 441) (by kernel_rfl) (by kernel_rfl) (fun A' OA CA hA E' => ?_) (fun i d A' OA CA hA => ?_)
  · exact t_ionew OA CA (by omega) fun x dx => ⟨x, dx, rfl, rfl⟩
  · exact t_sioinit OA CA (by omega) ⟨rfl, h i d⟩

theorem t_shinit (O : FmOk (W2 w pg loose mg mb) F) (C : CallOk F) (hr : 6 ≤ F.room) {lx dl : Addr} {x : Str} {P : Value → AS → Prop}
    (h : ∀ si di pb fs, P .none ⟨lc, (fs, dq) :: (pb, dq) :: (si, sio di x 0) :: (lx, lexO dl si pb fs false "#" (.str " " 0) "" 1) :: ob⟩) :
    CodeF (W2 w pg loose mg mb) F E ⟨lc, (lx, .inst 806 dl []) :: ob⟩ (.ref 730) [.ref lx, .str x 0] [("posix", .bool true)] P := by
  refine' c_code (nb := [("self", .ref lx), ("instream", .str x 0), ("infile", .none), ("posix", .bool true), ("punctuation_chars", .bool false)]) (ps := ["self", "instream", "infile", "posix", "punctuation_chars"]) (others := ["t"]) O C (ho := ?ho) (hcd := ?hcd) (hb := ?hb) (hps := ?hps) (hn := ?hn) (hroom := rm1 hr rfl) (hnf := ?hnf) (hbody := ?hbody) ?_ ?_ ?_
  krn_off
  case hb =>
    exact binds_21 (f := fun a b c => [("self", a), ("instream", b), ("infile", .none), ("posix", c), ("punctuation_chars", .bool false)]) (g := fun a b c => [("self", a), ("instream", b), ("infile", .none), ("posix", c), ("punctuation_chars", .bool false)]) (fun a b c S => by kernel_rfl) (fun _ _ _ => rfl)
  intro F' E' O' C' hr' hs hE hL
  have G : Globs (W2 w pg loose mg mb) F' [("isinstance", .builtin "isinstance"), ("str", .type "str"), ("StringIO", .ref 671), ("deque", .type "collections.deque")] := globs_of hs (by kernel_rfl)
  clear hs O C
  have S : ClsTab (W2 w pg loose mg mb).K _ _ _ := cLex (w := w)
  simp only [List.map_cons, List.map_nil, List.cons_append, List.nil_append]
  kcj_in
  refine f_isi rfl (by rfl) (by rw [isSubtype_type]; kernel_rfl) ?_
  kcj_in
  refine t_sio O' C' (rmx hr' hr rfl) fun si di => ?_
  kcj_in
  refine o_iadd_str (by rw [sizeLine_eq]; exact Nat.le_of_ble_eq_true (by kernel_rfl)) ?_
  kcj_in
  refine f_dq fun pb => ?_
  kcj_in
  refine f_dq fun fs => ?_
  kcj_in
  exact h _ _ _ _
end

end
/-! text U7 -/
section

section
variable (W : Wd) (F : Fm) (E : Value → Shared → Prop)
noncomputable abbrev kKw1b (f : Value) (first : List Value) (n : Str) (P : Value → AS → Prop) (vs : List Value) : Value → AS → Prop := fun kv σ₂ => CallF W F E σ₂ f (first ++ vs) [(n, kv)] P
noncomputable abbrev kKw1 (v : Expr) (f : Value) (first : List Value) (n : Str) (P : Value → AS → Prop) : List Value → AS → Prop := fun vs σ₁ => GoV W F E σ₁ (eval v F.env) (kKw1b W F E f first n P vs)
end
theorem w_callk1 {W : Wd} {F : Fm} {E : Value → Shared → Prop} {σ : AS} (O : FmOk W F) {pos f first e as} {n : Str} {v : Expr} {kp : Pos} {P : Value → AS → Prop} (hk : keepB W.K f = true)
    (h : Args W F E σ pos (e :: as) (kKw1 W F E v f first n P))
    (hplain : ((backTo pos (starEach (e :: as) F.env)).any (·.1) || (backToKw pos (keywordEach [⟨some n, v, kp⟩] F.env)).any (·.1.isNone)) = false)
    (he : starEach (e :: as) F.env = (false, eval e F.env) :: starEach as F.env)
    (hq : backToKw pos (keywordEach [⟨some n, v, kp⟩] F.env) = [(some n, do let x ← eval v F.env; standAt pos; pure x)]) : CallW W F E σ pos f first (e :: as) [⟨some n, v, kp⟩] P := by
  refine w_callk O hk (by rw [hq]; rfl) (h.mono fun vs σ₁ h₁ => ?_) hplain he
  rw [hq]
  exact fun s m news R => wpAny_evalAll_cons (wpAny_bind (goE (h₁ s m news R) (fun kv s₁ σ₂ m₁ n₁ h₂ R₁ => wpAny_bind (wpAny_standAt (wpAny_pure (wpAny_evalAll_nil ⟨σ₂, m₁, n₁, h₂, R₁⟩))))))
inductive Toks : Bool → St → List Nat → List Value → Prop
  | stop {N st r st' tok q r'} : Tk N st "" false r st' tok q r' → st'.isBad = false → isEof q tok = true → Toks false st r []
  | bad {N st r tok q r'} : Tk N st "" false r .bad tok q r' → Toks true st r []
  | more {b N st r st' tok q r' ys} : Tk N st "" false r st' tok q r' → st'.isBad = false → isEof q tok = false → Toks b st' r' ys → Toks b st r (.str tok 0 :: ys)

section
variable {w : World} {pg : Program} {loose : List Str} {mg mb : Str → Option Value} {F : Fm} {E : Value → Shared → Prop} {lc : Lc} {ob ob' : List (Addr × AO)}

noncomputable def lexSt (b : Bool) (x : Str) (lx dl si di pb fs : Addr) (ob : List (Addr × AO)) (ys : List Value) (o : List (Addr × AO)) : Prop :=
  ∃ st ln k, k ≤ x.length ∧ Toks b st (x.cps.toList.drop k) ys ∧ o = L4 lx dl si di pb fs x st.val ln k ++ ob
noncomputable def lexFin (b : Bool) (x : Str) (lx dl si di pb fs : Addr) (ob : List (Addr × AO)) (o : List (Addr × AO)) : Prop :=
  b = false ∧ ∃ st ln k, o = L4 lx dl si di pb fs x st ln k ++ ob
noncomputable def lexBad (b : Bool) (x : Str) (lx dl si di pb fs : Addr) (ob : List (Addr × AO)) (o : List (Addr × AO)) : Prop :=
  b = true ∧ ∃ sv tv ln k, o = L4b lx dl si di pb fs x sv tv ln k ++ ob

theorem Exc.keep {F : Fm} {lc : Lc} {cls e : Value} {s : Shared} {big keep junk : List (Addr × AO)} (h : Exc F cls ⟨lc, big⟩ e s) (hp : big.Perm (keep ++ junk)) : Exc F cls ⟨lc, keep⟩ e s := Exc.led (F := F) (F' := F) (σ := ⟨lc, big⟩) rfl (fun y => y.keep hp) h
theorem mid_perm {α : Type} {a : α} {l r : List α} : (a :: (l ++ r)).Perm (l ++ (a :: r)) := List.perm_middle.symm
theorem lexIter (hr : 8 ≤ F.room) {lx dl si di pb fs : Addr} {b : Bool} {x : Str} (hz : x.length ≤ 1000000) :
    Iter (W2 w pg loose mg mb) F lc lx dl 806 796 803 (lexSt b x lx dl si di pb fs ob) (lexFin b x lx dl si di pb fs ob) (lexBad b x lx dl si di pb fs ob) where
  ok := by kernel_rfl
  here := by
    rintro ys o ⟨st, ln, k, _, _, rfl⟩
    exact .inl ⟨_, List.mem_cons_self ..⟩
  iter := by
    rintro ys o ⟨st, ln, k, _, _, rfl⟩ A' E' l acc OA CA hA
    exact t_iter OA CA (by omega) ⟨rfl, rfl⟩
  step := by
    rintro y ys o ⟨st, ln, k, hk, hT, rfl⟩ A' E' l acc OA CA hA
    cases hT with
    | more hT hb he hn =>
      refine CodeF.less ?_
      refine CodeF.aside (fr := (l, .list acc) :: ob) mid_perm fun raws hx => t_next_tok (OA.wr raws) (CA.wr raws) (by show 6 ≤ (F.at A').room; omega) hz hk hT he hb ?_
      intro k' ln' h1 h2
      exact Less.of (keep := (l, .list acc) :: (L4 lx dl si di pb fs x _ ln' k' ++ ob)) (junk := []) (by rw [List.append_nil]; exact mid_perm.symm) ⟨rfl, _, ⟨_, ln', k', h1, h2 ▸ hn, rfl⟩, rfl⟩
  stop := by
    rintro o ⟨st, ln, k, hk, hT, rfl⟩ A' E' l acc OA CA hA hf hb
    cases hT with
    | bad hT =>
      refine CodeF.aside (fr := (l, .list acc) :: ob) mid_perm fun raws hx => t_next_bad (OA.wr raws) (CA.wr raws) (by show 6 ≤ (F.at A').room; omega) hz hk hT ?_
      intro sv tv k' ln' e s' hexc
      exact hb _ _ _ ⟨rfl, sv, tv, ln', k', rfl⟩ ((hx _ _ _ _ hexc).keep (junk := []) (by rw [List.append_nil]; exact mid_perm.symm))
    | stop hT hb' he =>
      refine CodeF.aside (fr := (l, .list acc) :: ob) mid_perm fun raws hx => t_next_stop (OA.wr raws) (CA.wr raws) (by show 6 ≤ (F.at A').room; omega) hz hk hT he hb' ?_
      intro k' ln' e s' hexc
      exact hf _ _ _ ⟨rfl, _, ln', k', rfl⟩ ((hx _ _ _ _ hexc).keep (junk := []) (by rw [List.append_nil]; exact mid_perm.symm))

theorem t_shlex (O : FmOk (W2 w pg loose mg mb) F) (C : CallOk F) (hr : 8 ≤ F.room) {x : Str} {P : Value → AS → Prop}
    (h : ∀ lx dl si di pb fs, P (.ref lx) ⟨lc, (fs, dq) :: (pb, dq) :: (si, sio di x 0) :: (lx, lexO dl si pb fs false "#" (.str " " 0) "" 1) :: ob⟩) :
    CallF (W2 w pg loose mg mb) F E ⟨lc, ob⟩ (.ref 806) [.str x 0] [("posix", .bool true)] P :=
  (c_new O C (by omega) (by kernel_rfl) (fI := 730) (by kernel_rfl) (by kernel_rfl) fun lx dl A' OA CA hA => t_shinit OA CA (by omega) fun si di pb fs => ⟨rfl, h lx dl si di pb fs⟩).call

theorem t_split (O : FmOk (W2 w pg loose mg mb) F) (C : CallOk F) (hr : 12 ≤ F.room) {x : Str} {b : Bool} {ys : List Value} (hz : x.length ≤ 1000000) (hy : ys.length ≤ 1000000)
    (hT : Toks b .ws x.cps.toList ys) {P : Value → AS → Prop} (h : b = false → ∀ l, P (.ref l) ⟨lc, (l, .list ys) :: ob⟩) (hbad : b = true → ∀ e s', Exc F (.type "ValueError") ⟨lc, ob⟩ e s' → E e s') :
    CallF (W2 w pg loose mg mb) F E ⟨lc, ob⟩ (.ref 818) [.str x 0] [] P := by
  refine CallF.less ?_
  refine' c_fn (nb := [("s", .str x 0), ("comments", .bool false), ("posix", .bool true)]) (ps := ["s", "comments", "posix"]) (others := ["lex"]) O C (ho := ?ho) (hcd := ?hcd) (hb := ?hb) (hps := ?hps) (hn := ?hn) (hroom := rm1 hr rfl) (hnf := ?hnf) (hbody := ?hbody) ?_ ?_ ?_
  krn_off
  case hb =>
    exact binds_10 (f := fun a => [("s", a), ("comments", .bool false), ("posix", .bool true)]) (g := fun a => [("s", a), ("comments", .bool false), ("posix", .bool true)]) (fun a S => by kernel_rfl) (fun _ => rfl)
  intro F' E' O' C' hr' hs hE hL
  have G : Globs (W2 w pg loose mg mb) F' [("shlex", .ref 806), ("list", .type "list")] := globs_of hs (by kernel_rfl)
  have hL := hL (by kernel_rfl)
  clear hs O C
  have S : ClsTab (W2 w pg loose mg mb).K _ _ _ := cLex (w := w)
  simp only [List.map_cons, List.map_nil, List.cons_append, List.nil_append]
  kcj_in
  refine w_callk1 O' (by kernel_rfl) ?_ (by rfl) (by rfl) (by rfl)
  kcj_in
  refine t_shlex O' C' (rmx hr' hr rfl) fun lx dl si di pb fs => ?_
  kcj_in
  have hp4 : ∀ (a b c d : Addr × AO), (a :: b :: c :: d :: ob).Perm (d :: c :: b :: a :: ob) := fun a b c d => by
    have := (List.reverse_perm [a, b, c, d]).symm.append_right ob
    simpa using this
  refine CallF.perm (hp4 _ _ _ _) ?_
  refine f_list_iter O' C' (rmx hr' hr rfl) (lexIter (b := b) (x := x) (dl := dl) (di := di) (pb := pb) (fs := fs) (si := si) (ob := ob) (by omega) hz) (xs := ys) ⟨.ws, 1, 0, Nat.zero_le _, hT, rfl⟩ hy ?_ ?_
  · rintro l ob' ⟨hb, st, ln, k, rfl⟩
    kcj_in
    exact Less.of (keep := (l, .list ys) :: ob) (junk := L4 lx dl si di pb fs x st ln k) (by
      exact (List.perm_append_comm).cons _) (h hb l)
  · rintro e s' ob' l acc ⟨hb, sv, tv, ln, k, rfl⟩ hx
    refine hL _ _ _ _ (.on hx) fun e s'' hx' => hbad hb e s'' (hx'.keep (junk := (l, .list acc) :: L4b lx dl si di pb fs x sv tv ln k) ?_)
    exact List.perm_append_comm (l₁ := (l, AO.list acc) :: L4b lx dl si di pb fs x sv tv ln k)
end

end
/-! text U8 -/
section

end
local macro_rules | `(tactic| kcf_all) => do
  let t ← tq "w_lc M _ W W"
  `(tactic| with_reducible $t:tactic)
section
noncomputable def inV (ys : List Value) : Value → Bool
  | .str x _ => ys.any (isStrV x)
  | _ => false
noncomputable def outOf (ys : List Value) (v : Value) : Bool := !inV ys v

section
variable {w : World} {pg : Program} {loose : List Str} {mg mb : Str → Option Value} {F : Fm} {E : Value → Shared → Prop} {lc : Lc} {ob ob' : List (Addr × AO)}
noncomputable abbrev ffO (dx i b : Addr) : Obj := slO 77 dx #[some (.ref b), some (.ref i)]

theorem t_ffinit (O : FmOk (W2 w pg loose mg mb) F) (C : CallOk F) (hr : 1 ≤ F.room) {x dx b l : Addr} {xs : List Value} (hl : (l, AO.list xs) ∈ ob) {P : Value → AS → Prop}
    (h : ∀ i, P .none ⟨lc, (i, .raw (liO l 0)) :: (x, .raw (ffO dx i b)) :: (dx, .raw (dictOf [] 0)) :: ob⟩) :
    CodeF (W2 w pg loose mg mb) F E ⟨lc, (x, .raw (slO 77 dx #[])) :: (dx, .raw (dictOf [] 0)) :: ob⟩ (.ref 59) [.ref x, .ref b, .ref l] [] P := by
  refine' c_code (nb := [("self", .ref x), ("function", .ref b), ("iterable", .ref l)]) (ps := ["self", "function", "iterable"]) (others := []) O C (ho := ?ho) (hcd := ?hcd) (hb := ?hb) (hps := ?hps) (hn := ?hn) (hroom := rm1 hr rfl) (hnf := ?hnf) (hbody := ?hbody) ?_ ?_ ?_
  krn_off
  case hb =>
    exact binds_30 (f := fun a b c => [("self", a), ("function", b), ("iterable", c)]) (g := fun a b c => [("self", a), ("function", b), ("iterable", c)]) (fun a b c S => by kernel_rfl) (fun _ _ _ => rfl)
  intro F' E' O' C' hr' hs hE hL
  have G : Globs (W2 w pg loose mg mb) F' [("iter", .builtin "iter")] := globs_of hs (by kernel_rfl)
  clear hs O C
  simp only [List.map_cons, List.map_nil, List.cons_append, List.nil_append]
  kcj_in
  refine f_iter (by kcj_m) fun i => ?_
  kcj_in
  refine a_slot O' (C := 77) (p := 79) (i := 1) (sl' := #[none, some (.ref i)]) (by tb_rel) (by kcj_m) (by kernel_rfl) (by decide) (by rfl) ?_
  kcj_in
  refine a_slot O' (C := 77) (p := 78) (i := 0) (sl' := #[some (.ref b), some (.ref i)]) (by tb_rel) (by kcj_m) (by kernel_rfl) (by decide) (by rfl) ?_
  kcj_in
  exact h i

theorem drop_at {α : Type} {xs : List α} {k : Nat} {v : α} (h : xs[k]? = some v) : xs.drop k = v :: xs.drop (k + 1) := by
  obtain ⟨h1, h2⟩ := List.getElem?_eq_some_iff.mp h
  rw [List.drop_eq_getElem_cons h1, h2]

theorem t_ffnext (O : FmOk (W2 w pg loose mg mb) F) (C : CallOk F) (hr : 1 ≤ F.room) {x dx b l l2 i : Addr} {q : Addr × AO} {xs ys : List Value} {k : Nat} (hl : (l, AO.list xs) ∈ ob) (hl2 : (l2, AO.list ys) ∈ ob) (hb : (b, AO.raw (lcO l2)) ∈ ob) (hx : (x, AO.raw (ffO dx i b)) ∈ ob) (hd : (dx, AO.raw (dictOf [] 0)) ∈ ob)
    (ax : AllStr xs) (ay : AllStr ys) {P : Value → AS → Prop}
    (h : ∀ v j, (xs.drop k).filter (outOf ys) = v :: (xs.drop (j + 1)).filter (outOf ys) → P v ⟨lc, q :: (i, .raw (liO l (j + 1))) :: ob⟩)
    (hs : (xs.drop k).filter (outOf ys) = [] → ∀ j e s', Exc F (.type "StopIteration") ⟨lc, q :: (i, .raw (liE j)) :: ob⟩ e s' → E e s') :
    CodeF (W2 w pg loose mg mb) F E ⟨lc, q :: (i, .raw (liO l k)) :: ob⟩ (.ref 73) [.ref x] [] P := by
  refine' c_code (nb := [("self", .ref x)]) (ps := ["self"]) (others := ["func", "item"]) O C (ho := ?ho) (hcd := ?hcd) (hb := ?hb) (hps := ?hps) (hn := ?hn) (hroom := rm1 hr rfl) (hnf := ?hnf) (hbody := ?hbody) ?_ ?_ ?_
  krn_off
  case hb =>
    exact binds_10 (f := fun a => [("self", a)]) (g := fun a => [("self", a)]) (fun a S => by kernel_rfl) (fun _ => rfl)
  intro F' E' O' C' hr' hs' hE hL
  have G : Globs (W2 w pg loose mg mb) F' [("next", .builtin "next"), ("bool", .type "bool")] := globs_of hs' (by kernel_rfl)
  have hL := hL (by kernel_rfl)
  clear hs' O C
  simp only [List.map_cons, List.map_nil, List.cons_append, List.nil_append]
  kcj_in
  refine g_slot O' (C := 77) (p := 78) (i := 0) (d := dx) (sl := #[some (.ref b), some (.ref i)]) (by kcj_m) (by kcj_m) (by kernel_rfl) rfl rfl ?_
  kcj_in
  refine s_whileJ hE (fun n σ => ∃ it j, n = xs.length - j ∧ (xs.drop k).filter (outOf ys) = (xs.drop j).filter (outOf ys) ∧ σ = ⟨[("self", some (.ref x)), ("func", some (.ref b)), ("item", it)], q :: (i, .raw (liO l j)) :: ob⟩) (fun _ => False) ?_ (fun _ h => h.elim) _ ⟨none, k, rfl, rfl, rfl⟩
  rintro n σ ⟨it, j, rfl, hj, rfl⟩
  rw [hj] at h hs
  kcj_in
  refine g_slot O' (C := 77) (p := 79) (i := 1) (d := dx) (sl := #[some (.ref b), some (.ref i)]) (by kcj_m) (by kcj_m) (by kernel_rfl) rfl rfl ?_
  kcj_in
  rcases hv : xs[j]? with _ | v
  · refine f_stop O' (l := l) (k := j) (by tb_rel) (by kcj_m) (by simpa using hv) fun e s' hf => hL _ _ _ _ hf fun e s'' hx => hs (by rw [List.drop_eq_nil_of_le (by simpa using hv)]; rfl) _ _ _ hx
  · refine f_next (l := l) (k := j) (by tb_rel) (by kcj_m) hv ?_
    obtain ⟨z, rfl⟩ := ax _ (List.mem_of_getElem? hv)
    have hlt := (List.getElem?_eq_some_iff.mp hv).1
    kcj_in
    refine x_is_rt ?_
    kcj_in
    refine ⟨by kcj_m, f_lc (xs := ys) (l := l2) (by kcj_m) (by kcj_m) ay ?_⟩
    rw [drop_at hv] at h hs hj
    cases hin : ys.any (isStrV z)
    · have e : outOf ys (.str z 0) = true := by simp [outOf, inV, hin]
      rw [List.filter_cons, if_pos e] at h
      kcj_in
      refine wh_ret ?_
      exact h _ _ rfl
    · have e : outOf ys (.str z 0) = false := by simp [outOf, inV, hin]
      rw [List.filter_cons, if_neg (by rw [e]; decide)] at hj
      kcj_in
      exact wh_next (k := xs.length - (j + 1)) ⟨_, j + 1, rfl, hj, rfl⟩ (by omega)

theorem t_ffiter (O : FmOk (W2 w pg loose mg mb) F) (C : CallOk F) (hr : 1 ≤ F.room) {x : Addr} {P : Value → AS → Prop} (h : P (.ref x) ⟨lc, ob⟩) : CodeF (W2 w pg loose mg mb) F E ⟨lc, ob⟩ (.ref 66) [.ref x] [] P := by
  refine' c_code (nb := [("self", .ref x)]) (ps := ["self"]) (others := []) O C (ho := ?ho) (hcd := ?hcd) (hb := ?hb) (hps := ?hps) (hn := ?hn) (hroom := rm1 hr rfl) (hnf := ?hnf) (hbody := ?hbody) ?_ ?_ ?_
  krn_off
  case hb =>
    exact binds_10 (f := fun a => [("self", a)]) (g := fun a => [("self", a)]) (fun a S => by kernel_rfl) (fun _ => rfl)
  intro F' E' O' C' hr' hs hE hL
  clear hs O C
  simp only [List.map_cons, List.map_nil, List.cons_append, List.nil_append]
  kcj_in
  exact h
noncomputable abbrev ffOb (x dx b l2 i : Addr) (ob : List (Addr × AO)) : List (Addr × AO) := (x, .raw (ffO dx i b)) :: (dx, .raw (dictOf [] 0)) :: (b, .raw (lcO l2)) :: ob
theorem ffI (hr : 2 ≤ F.room) {x dx b l l2 i : Addr} {xs ys : List Value} (hl : (l, AO.list xs) ∈ ob) (hl2 : (l2, AO.list ys) ∈ ob) (ax : AllStr xs) (ay : AllStr ys) :
    Iter (W2 w pg loose mg mb) F lc x dx 77 66 73 (fun zs o => ∃ k, zs = (xs.drop k).filter (outOf ys) ∧ o = (i, .raw (liO l k)) :: ffOb x dx b l2 i ob) (fun o => ∃ k, o = (i, .raw (liE k)) :: ffOb x dx b l2 i ob) (fun _ => False) where
  ok := by kernel_rfl
  here := by
    rintro zs o ⟨k, _, rfl⟩
    exact .inr ⟨_, List.mem_cons_of_mem _ (List.mem_cons_self ..), List.mem_cons_of_mem _ (List.mem_cons_of_mem _ (List.mem_cons_self ..))⟩
  iter := by
    rintro zs o ⟨k, _, rfl⟩ A' E' l acc OA CA hA
    exact t_ffiter OA CA (by omega) ⟨rfl, rfl⟩
  step := by
    rintro y zs o ⟨k, hz, rfl⟩ A' E' l acc OA CA hA
    refine t_ffnext (ob := ffOb x dx b l2 i ob) OA CA (by omega) (xs := xs) (ys := ys) (l2 := l2) (dx := dx) (b := b) (by simp [hl]) (by simp [hl2]) (by simp) (by simp) (by simp) ax ay (fun v j hv => ?_) (fun hv => ?_)
    · rw [hv] at hz
      injection hz with e1 e2
      exact ⟨e1.symm, _, ⟨j + 1, e2, rfl⟩, rfl⟩
    · rw [hv] at hz; cases hz
  stop := by
    rintro o ⟨k, hz, rfl⟩ A' E' l acc OA CA hA hf hb
    refine t_ffnext (ob := ffOb x dx b l2 i ob) OA CA (by omega) (xs := xs) (ys := ys) (l2 := l2) (dx := dx) (b := b) (by simp [hl]) (by simp [hl2]) (by simp) (by simp) (by simp) ax ay (fun v j hv => ?_) (fun hv j e s' hx => ?_)
    · rw [hv] at hz; cases hz
    · exact hf e s' _ ⟨j, rfl⟩ hx

theorem t_filter (O : FmOk (W2 w pg loose mg mb) F) (C : CallOk F) (hr : 5 ≤ F.room) {l l2 : Addr} {xs ys : List Value} (hl : (l, AO.list xs) ∈ ob) (hl2 : (l2, AO.list ys) ∈ ob) (ax : AllStr xs) (ay : AllStr ys) (hz : xs.length ≤ 1000000) {P : Value → AS → Prop}
    (h : ∀ r, P (.ref r) ⟨lc, (r, .list (xs.filter (outOf ys))) :: ob⟩) : CallF (W2 w pg loose mg mb) F E ⟨lc, ob⟩ (.ref 88) [.ref l, .ref l2] [] P := by
  refine CallF.less ?_
  refine' c_fn (nb := [("flist", .ref l), ("skip", .ref l2)]) (ps := ["flist", "skip"]) (others := []) O C (ho := ?ho) (hcd := ?hcd) (hb := ?hb) (hps := ?hps) (hn := ?hn) (hroom := rm1 hr rfl) (hnf := ?hnf) (hbody := ?hbody) ?_ ?_ ?_
  krn_off
  case hb =>
    exact binds_20 (f := fun a b => [("flist", a), ("skip", b)]) (g := fun a b => [("flist", a), ("skip", b)]) (fun a b S => by kernel_rfl) (fun _ _ => rfl)
  intro F' E' O' C' hr' hs hE hL
  have G : Globs (W2 w pg loose mg mb) F' [("filterfalse", .ref 77), ("list", .type "list")] := globs_of hs (by kernel_rfl)
  clear hs O C
  simp only [List.map_cons, List.map_nil, List.cons_append, List.nil_append]
  kcj_in
  refine g_lc (by kcj_m) fun b => ?_
  kcj_in
  refine CodeF.call ?_
  refine c_newR O' C' (rmx hr' hr rfl) (by kernel_rfl) (fI := 59) (by kernel_rfl) (by kernel_rfl) fun x dx A' OA CA hA => ?_
  refine t_ffinit OA CA (by omega) (xs := xs) (by kcj_m) fun i => ⟨rfl, ?_⟩
  kcj_in
  refine f_list_iter O' C' (rmx hr' hr rfl) (ffI (ob := ob) (x := x) (dx := dx) (b := b) (i := i) (l := l) (l2 := l2) (by omega) hl hl2 ax ay) (xs := xs.filter (outOf ys)) ⟨0, rfl, rfl⟩ (Nat.le_trans (List.length_filter_le ..) hz) ?_ (fun _ _ _ _ _ hb => hb.elim)
  rintro r ob' ⟨k, rfl⟩
  kcj_in
  exact Less.of (keep := (r, .list (xs.filter (outOf ys))) :: ob) (junk := (i, .raw (liE k)) :: ffOb x dx b l2 i []) (by
    refine .cons _ ?_
    exact List.perm_append_comm (l₁ := (i, AO.raw (liE k)) :: ffOb x dx b l2 i [])) (h r)
end

end
/-! text P1 -/
section

/-! base64, in plain Lean -/
noncomputable def alpha : List Nat := [65,66,67,68,69,70,71,72,73,74,75,76,77,78,79,80,81,82,83,84,85,86,87,88,89,90,97,98,99,100,101,102,103,104,105,106,107,108,109,110,111,112,113,114,115,116,117,118,119,120,121,122,48,49,50,51,52,53,54,55,56,57,43,47]
noncomputable def sg (k : Nat) : Nat := alpha.getD k 0
noncomputable def b64A : Array UInt8 := (alpha.map Nat.toUInt8).toArray
theorem b64A_at : ∀ k, k < 64 → b64A.toList[k]? = some (sg k).toUInt8 ∧ ((sg k).toUInt8).toNat = sg k ∧ sg k < 256 := by decide +kernel
noncomputable def val256 (bs : List Nat) : Nat := bs.foldl (fun a b => a * 256 + b) 0
theorem val256_snoc (bs : List Nat) (b : Nat) : val256 (bs ++ [b]) = val256 bs * 256 + b := by simp [val256]
noncomputable def figs (T V n : Nat) : List Nat := (List.range n).map fun j => sg (V / 2 ^ (T - 6 * (j + 1)) % 64)
theorem figs_succ (T V n : Nat) : figs T V (n + 1) = figs T V n ++ [sg (V / 2 ^ (T - 6 * (n + 1)) % 64)] := by simp [figs, List.range_succ]
theorem figs_more {T V n b : Nat} (h : 6 * n ≤ T) (hb : b < 256) : figs (T + 8) (V * 256 + b) n = figs T V n := by
  unfold figs
  refine List.map_congr_left fun j hj => ?_
  have hj : j < n := List.mem_range.mp hj
  have e : 2 ^ (T + 8 - 6 * (j + 1)) = 256 * 2 ^ (T - 6 * (j + 1)) := by
    rw [show T + 8 - 6 * (j + 1) = 8 + (T - 6 * (j + 1)) from (Nat.sub_add_comm (Nat.le_trans (Nat.mul_le_mul_left 6 hj) h)).trans (Nat.add_comm ..), Nat.pow_add]
  rw [e, ← Nat.div_div_eq_div_mul, show (V * 256 + b) / 256 = V from by rw [Nat.mul_comm, Nat.mul_add_div (by decide), Nat.div_eq_of_lt hb, Nat.add_zero]]
noncomputable def b64o (bs : List Nat) : List Nat :=
  figs (8 * bs.length) (val256 bs) (8 * bs.length / 6) ++
    (if 8 * bs.length % 6 = 2 then [sg (val256 bs % 4 * 16), 61, 61] else if 8 * bs.length % 6 = 4 then [sg (val256 bs % 16 * 4), 61] else [])
theorem mid_bits (V : Nat) {p : Nat} (hp : p ≤ 10) : V % 65536 / 2 ^ p % 64 = V / 2 ^ p % 64 := by
  have e : 65536 = 2 ^ p * 2 ^ (16 - p) := by rw [← Nat.pow_add, show p + (16 - p) = 16 from by omega]
  rw [e, Nat.mod_mul_right_div_self]
  refine Nat.mod_mod_of_dvd _ ?_
  rw [show (64 : Nat) = 2 ^ 6 from rfl]
  exact Nat.pow_dvd_pow 2 (by omega)
theorem or_nat (a b : Nat) : Builtin.bitOr (a : Int) (b : Int) = ((a ||| b : Nat) : Int) := by
  have n1 : ∀ c : Nat, Builtin.bitNot (Builtin.bitNot (c : Int)) = (c : Int) := fun c => by unfold Builtin.bitNot; omega
  have h : ∀ c : Nat, decide (0 ≤ Builtin.bitNot (c : Int)) = false := fun c => decide_eq_false (by unfold Builtin.bitNot; omega)
  unfold Builtin.bitOr Builtin.bitAnd
  rw [h a, h b]
  simp only [n1, Int.toNat_natCast]
theorem or_low (a : Nat) {b : Nat} (hb : b < 256) : Builtin.bitOr ((a * 256 : Nat) : Int) (b : Int) = ((a * 256 + b : Nat) : Int) := by
  have e : a * 256 ||| b = a * 256 + b := by
    have := Nat.shiftLeft_add_eq_or_of_lt (show b < 2 ^ 8 from hb) a
    rw [Nat.shiftLeft_eq] at this
    exact this.symm
  rw [← e, or_nat]
theorem and_mask (a k : Nat) : Builtin.bitAnd (a : Int) ((2 : Int) ^ k - 1) = ((a % 2 ^ k : Nat) : Int) := by
  rw [PySem.W.kbt_mask]
  simp

end
/-! text U9 -/
section
end
local macro_rules | `(tactic| lcg_sub) => do
  let t ← tq "v_sub _ W|v_list _"
  `(tactic| with_reducible $t:tactic)
section
end
local macro_rules | `(tactic| lcg_off) => do
  let t ← tq "o_and _|o_or _"
  `(tactic| with_reducible $t:tactic)
section

section
variable {w : World} {pg : Program} {loose : List Str} {mg mb : Str → Option Value} {F : Fm} {E : Value → Shared → Prop} {lc : Lc} {ob ob' : List (Addr × AO)}

theorem t_buffer (O : FmOk (W2 w pg loose mg mb) F) (C : CallOk F) (hr : 1 ≤ F.room) {b : Array UInt8} {P : Value → AS → Prop} (h : P (.bytes b 0) ⟨lc, ob⟩) : CallF (W2 w pg loose mg mb) F E ⟨lc, ob⟩ (.ref 95) [.bytes b 0] [] P := by
  refine' c_fn (nb := [("data", .bytes b 0)]) (ps := ["data"]) (others := ["t"]) O C (ho := ?ho) (hcd := ?hcd) (hb := ?hb) (hps := ?hps) (hn := ?hn) (hroom := hr) (hnf := ?hnf) (hbody := ?hbody) ?_ ?_ ?_
  krn_off
  case hb =>
    exact binds_10 (f := fun a => [("data", a)]) (g := fun a => [("data", a)]) (fun a S => by kernel_rfl) (fun _ => rfl)
  intro F' E' O' C' hr' hs hE hL
  have G : Globs (W2 w pg loose mg mb) F' [("type", .type "type"), ("bytes", .type "bytes")] := globs_of hs (by kernel_rfl)
  clear hs O C
  simp only [List.map_cons, List.map_nil, List.cons_append, List.nil_append]
  kcj_in
  exact h
theorem t_truth (O : FmOk (W2 w pg loose mg mb) F) (C : CallOk F) (hr : 1 ≤ F.room) {P : Value → AS → Prop} (h : P (.bool false) ⟨lc, ob⟩) : CallF (W2 w pg loose mg mb) F E ⟨lc, ob⟩ (.ref 102) [.bool false] [] P := by
  refine' c_fn (nb := [("x", .bool false)]) (ps := ["x"]) (others := ["t"]) O C (ho := ?ho) (hcd := ?hcd) (hb := ?hb) (hps := ?hps) (hn := ?hn) (hroom := hr) (hnf := ?hnf) (hbody := ?hbody) ?_ ?_ ?_
  krn_off
  case hb =>
    exact binds_10 (f := fun a => [("x", a)]) (g := fun a => [("x", a)]) (fun a S => by kernel_rfl) (fun _ => rfl)
  intro F' E' O' C' hr' hs hE hL
  have G : Globs (W2 w pg loose mg mb) F' [("type", .type "type"), ("bool", .type "bool")] := globs_of hs (by kernel_rfl)
  clear hs O C
  simp only [List.map_cons, List.map_nil, List.cons_append, List.nil_append]
  kcj_in
  exact h

noncomputable def natV (ns : List Nat) : List Value := ns.map fun (n : Nat) => .int (n : Int) 0
theorem b64A_size : b64A.size ≤ 1000000 := by decide +kernel
theorem natV_snoc (ns : List Nat) (n : Nat) : natV (ns ++ [n]) = natV ns ++ [.int (n : Int) 0] := by simp [natV]
theorem natV_61 (ns : List Nat) : natV ns ++ [.int 61 0] = natV (ns ++ [61]) := (natV_snoc ns 61).symm
theorem natV_length (ns : List Nat) : (natV ns).length = ns.length := by simp [natV]
theorem figs_length (T V n : Nat) : (figs T V n).length = n := by simp [figs]
noncomputable def castI (ns : List Nat) : List Int := ns.map fun (n : Nat) => (n : Int)
theorem natV_int (ns : List Nat) : natV ns = intV (castI ns) := by simp [natV, intV, castI]
theorem byteArr_nat {ns : List Nat} (h : ∀ n ∈ ns, n < 256) : (byteArr (castI ns)).toList.map (·.toNat) = ns := by
  unfold byteArr castI
  simp only [List.map_map]
  conv => rhs; rw [← List.map_id ns]
  refine List.map_congr_left fun n hn => ?_
  have := h n hn
  show ((n : Int).toNat.toUInt8).toNat = n
  rw [Int.toNat_natCast]
  show (UInt8.ofNat n).toNat = n
  rw [UInt8.toNat_ofNat']; omega
theorem sg_lt (k : Nat) : sg k < 256 := by
  by_cases h : k < 64
  · exact (b64A_at k h).2.2
  · have : sg k = 0 := by
      unfold sg
      rw [List.getD_eq_getElem?_getD, List.getElem?_eq_none (by simp [alpha]; omega)]; rfl
    omega
theorem b64o_lt (bs : List Nat) : ∀ n ∈ b64o bs, n < 256 := fun n hn => by
  unfold b64o at hn
  rcases List.mem_append.mp hn with hn | hn
  · obtain ⟨j, _, rfl⟩ := List.mem_map.mp hn
    exact sg_lt _
  · split at hn
    · simp only [List.mem_cons, List.not_mem_nil, or_false] at hn
      rcases hn with rfl | rfl | rfl <;> first | exact sg_lt _ | decide
    · split at hn
      · simp only [List.mem_cons, List.not_mem_nil, or_false] at hn
        rcases hn with rfl | rfl <;> first | exact sg_lt _ | decide
      · simp at hn
theorem b64o_length (bs : List Nat) : (b64o bs).length ≤ 8 * bs.length + 3 := by
  unfold b64o
  rw [List.length_append, figs_length]
  split
  · simp; omega
  · split <;> simp <;> omega
theorem bytesV_nat (b : Array UInt8) : bytesV b = natV (b.toList.map (·.toNat)) := by simp [bytesV, natV, Function.comp_def]
/-! the numbers of the loop, for the sizes at hand -/
theorem b2a_numA : ∀ k, k < 12 → ∀ j, j < 17 → (8 * k / 6 ≤ j ∧ 6 * j ≤ 8 * (k + 1)) → decide (((8 * (k + 1) - 6 * j : Nat) : Int) ≥ 6) = decide (j < 8 * (k + 1) / 6) ∧ (¬ j < 8 * (k + 1) / 6 → j = 8 * (k + 1) / 6) := by decide +kernel
theorem b2a_numB : ∀ k, k < 12 → ∀ j, j < 17 → (8 * k / 6 ≤ j ∧ 6 * j ≤ 8 * (k + 1) ∧ j < 8 * (k + 1) / 6) → 0 ≤ ((8 * (k + 1) - 6 * j : Nat) : Int) - 6 ∧ (((8 * (k + 1) - 6 * j : Nat) : Int) - 6).toNat = 8 * (k + 1) - 6 * (j + 1) ∧ 8 * (k + 1) - 6 * (j + 1) ≤ 10 := by decide +kernel
theorem b2a_numC : ∀ k, k < 12 → ∀ j, j < 17 → (8 * k / 6 ≤ j ∧ 6 * j ≤ 8 * (k + 1) ∧ j < 8 * (k + 1) / 6) → ((8 * (k + 1) - 6 * j : Nat) : Int) - 6 = ((8 * (k + 1) - 6 * (j + 1) : Nat) : Int) ∧ 8 * k / 6 ≤ j + 1 ∧ 6 * (j + 1) ≤ 8 * (k + 1) ∧ 8 * (k + 1) / 6 - (j + 1) < 8 * (k + 1) / 6 - j := by decide +kernel
theorem b2a_num0 : ∀ k, k < 13 → 6 * (8 * k / 6) ≤ 8 * (k + 1) ∧ 6 * (8 * k / 6) ≤ 8 * k ∧ (8 * k + 8 - 6 * (8 * k / 6) : Nat) = 8 * k % 6 + 8 ∧ 8 * (k + 1) - 6 * (8 * (k + 1) / 6) = 8 * (k + 1) % 6 ∧ 8 * k / 6 ≤ 17 ∧
    (8 * k % 6 = 0 ∨ 8 * k % 6 = 2 ∨ 8 * k % 6 = 4) := by decide +kernel
theorem b2a_j {k j : Nat} (hk : k < 12) (h : 6 * j ≤ 8 * (k + 1)) : j < 17 := by omega
theorem b2a_mod (V c : Nat) : V % 65536 * 256 % 65536 = V * 256 % 65536 ∧ V % 65536 % 4 = V % 4 ∧ V % 65536 % 16 = V % 16 := ⟨by rw [Nat.mul_mod, Nat.mod_mod, ← Nat.mul_mod], Nat.mod_mod_of_dvd _ (by decide), Nat.mod_mod_of_dvd _ (by decide)⟩
theorem b2a_or (V : Nat) {c : Nat} (hcb : c < 256) : Builtin.bitAnd (Builtin.bitOr (((V % 65536 : Nat) : Int) * 2 ^ (8 : Int).toNat) (c : Int)) 65535 = (((V * 256 + c) % 65536 : Nat) : Int) := by
  have a1 : ((V % 65536 : Nat) : Int) * 2 ^ (8 : Int).toNat = ((V % 65536 * 256 : Nat) : Int) := rfl
  have a2 := and_mask (V % 65536 * 256 + c) 16
  rw [show ((2 : Int) ^ 16 - 1) = 65535 from by decide] at a2
  rw [a1, or_low _ hcb, a2, show (2 : Nat) ^ 16 = 65536 from rfl, Nat.add_mod, (b2a_mod V c).1, ← Nat.add_mod]
theorem b2a_cut (V p : Nat) (hp : p ≤ 10) : Builtin.bitAnd (((V % 65536 : Nat) : Int).fdiv (2 ^ p)) 63 = ((V / 2 ^ p % 64 : Nat) : Int) := by
  have a1 : ((V % 65536 : Nat) : Int).fdiv ((2 : Int) ^ p) = ((V % 65536 / 2 ^ p : Nat) : Int) := by
    rw [Int.fdiv_eq_ediv_of_nonneg _ (Int.pow_nonneg (by decide)), Int.natCast_ediv, Int.natCast_pow]; rfl
  have a2 := and_mask (V % 65536 / 2 ^ p) 6
  rw [show ((2 : Int) ^ 6 - 1) = 63 from by decide] at a2
  rw [a1, a2, show (2 : Nat) ^ 6 = 64 from rfl, mid_bits _ hp]
theorem b2a_low (V : Nat) : Builtin.bitAnd ((V % 65536 : Nat) : Int) 3 = ((V % 4 : Nat) : Int) ∧ Builtin.bitAnd ((V % 65536 : Nat) : Int) 15 = ((V % 16 : Nat) : Int) := by
  have a2 := and_mask (V % 65536) 2
  have a4 := and_mask (V % 65536) 4
  rw [show ((2 : Int) ^ 2 - 1) = 3 from by decide, show (2 : Nat) ^ 2 = 4 from rfl, (b2a_mod V 0).2.1] at a2
  rw [show ((2 : Int) ^ 4 - 1) = 15 from by decide, show (2 : Nat) ^ 4 = 16 from rfl, (b2a_mod V 0).2.2] at a4
  exact ⟨a2, a4⟩
theorem nat_small {n m : Nat} (h : n < m) (hm : m ≤ 2 ^ 64) : ((n : Int)).natAbs < 2 ^ 64 := Nat.lt_of_lt_of_le h hm
theorem low_lt (V : Nat) : V % 4 * 16 < 64 ∧ V % 16 * 4 < 64 := ⟨Nat.mul_lt_mul_of_pos_right (Nat.mod_lt V (by decide)) (by decide), Nat.mul_lt_mul_of_pos_right (Nat.mod_lt V (by decide)) (by decide)⟩
theorem len1 (ns : List Nat) (n : Nat) {m : Nat} (h : ns.length ≤ m) : (natV (ns ++ [n])).length ≤ m + 1 := by rw [natV_length, List.length_append]; exact Nat.succ_le_succ h
theorem le_mill {a b : Nat} (h : a ≤ b) (hb : b ≤ 100) : a ≤ 1000000 := Nat.le_trans h (Nat.le_trans hb (by decide))
noncomputable abbrev b2aL (b : Array UInt8) (l : Addr) (lb lch : Int) (bv : Option Value) : Lc :=
  [("data", some (.bytes b 0)), ("newline", some (.bool false)), ("bin_data", some (.bytes b 0)), ("out", some (.ref l)), ("leftbits", some (.int lb 0)), ("leftchar", some (.int lch 0)), ("b", bv)]
theorem t_b2a (O : FmOk (W2 w pg loose mg mb) F) (C : CallOk F) (hr : 2 ≤ F.room) {b : Array UInt8} (hz : b.size ≤ 12) {P : Value → AS → Prop} (h : ∀ c : Array UInt8, c.toList.map (·.toNat) = b64o (b.toList.map (·.toNat)) → P (.bytes c 0) ⟨lc, ob⟩) :
    CallF (W2 w pg loose mg mb) F E ⟨lc, ob⟩ (.ref 110) [.bytes b 0] [("newline", .bool false)] P := by
  refine CallF.less ?_
  refine' c_fn (nb := [("data", .bytes b 0), ("newline", .bool false)]) (ps := ["data", "newline"]) (others := ["bin_data", "out", "leftbits", "leftchar", "b"]) O C (ho := ?ho) (hcd := ?hcd) (hb := ?hb) (hps := ?hps) (hn := ?hn) (hroom := rm1 hr rfl) (hnf := ?hnf) (hbody := ?hbody) ?_ ?_ ?_
  krn_off
  case hb =>
    exact binds_11 (f := fun a c => [("data", a), ("newline", c)]) (g := fun a c => [("data", a), ("newline", c)]) (fun a c S => by kernel_rfl) (fun _ _ => rfl)
  intro F' E' O' C' hr' hs hE hL
  have G : Globs (W2 w pg loose mg mb) F' [("_buffer", .ref 95), ("_truth", .ref 102), ("_B64", .bytes b64A 0), ("bytes", .type "bytes")] := globs_of hs (by kernel_rfl)
  clear hs O C
  simp only [List.map_cons, List.map_nil, List.cons_append, List.nil_append]
  kcj_in
  refine t_buffer O' C' (rmx hr' hr rfl) ?_
  kcj_in
  refine t_truth O' C' (rmx hr' hr rfl) ?_
  kcj_in
  refine ⟨by decide, fun l => ?_⟩
  kcj_in
  generalize hbs : b.toList.map (·.toNat) = bs at h
  have hlen : bs.length = b.size := by rw [← hbs]; simp
  refine s_for O' C' hE (bytesV b) (fun _ => True) (fun k σ => ∃ bv, σ = ⟨b2aL b l ((8 * k % 6 : Nat) : Int) ((val256 (bs.take k) % 65536 : Nat) : Int) bv, (l, .list (natV (figs (8 * k) (val256 (bs.take k)) (8 * k / 6)))) :: ob⟩) ?_ (fun _ _ _ => trivial) ?_ ?_
  · kcj_in
    exact ⟨Iters.bytes, none, rfl⟩
  · rintro raws Or Cr k v σ hv ⟨bv, rfl⟩
    rw [bytesV_nat, hbs] at hv
    unfold natV at hv
    rw [List.getElem?_map, Option.map_eq_some_iff] at hv
    obtain ⟨c, hc, rfl⟩ := hv
    have hk : k < 12 := Nat.lt_of_lt_of_le (List.getElem?_eq_some_iff.mp hc).1 (hlen ▸ hz)
    have hk0 := b2a_num0 k (Nat.lt_succ_of_lt hk)
    have hk1 := b2a_num0 (k + 1) (Nat.succ_lt_succ hk)
    have hcb : c < 256 := by
      have := List.mem_of_getElem? hc
      rw [← hbs] at this
      obtain ⟨u, _, rfl⟩ := List.mem_map.mp this
      exact u.toNat_lt
    have htake : bs.take (k + 1) = bs.take k ++ [c] := by rw [List.take_add_one, hc]; rfl
    generalize hV : val256 (bs.take k) = V
    have hV' : val256 (bs.take (k + 1)) = V * 256 + c := by rw [htake, val256_snoc, hV]
    have G : Globs (W2 w pg loose mg mb) (F'.wr raws) _ := G
    kcj_in
    refine o_shl (by decide) (by decide) (nat_small (Nat.mod_lt V (by decide)) (by decide)) ?_
    kcj_in
    rw [b2a_or V hcb]
    kcj_in
    refine s_whileJ hE (fun n σ => ∃ j, n = 8 * (k + 1) / 6 - j ∧ 8 * k / 6 ≤ j ∧ 6 * j ≤ 8 * (k + 1) ∧ σ = ⟨b2aL b l ((8 * (k + 1) - 6 * j : Nat) : Int) (((V * 256 + c) % 65536 : Nat) : Int) (some (.int c 0)), (l, .list (natV (figs (8 * (k + 1)) (V * 256 + c) j))) :: ob⟩) (fun _ => False) ?_ (fun _ h => h.elim) _
      ⟨8 * k / 6, rfl, Nat.le_refl _, hk0.1, ?_⟩
    · rintro n σ ⟨j, rfl, hj1, hj2, rfl⟩
      have hj17 := b2a_j hk hj2
      obtain ⟨hge, hend⟩ := b2a_numA k hk j hj17 ⟨hj1, hj2⟩
      kcj_in
      rw [hge]
      by_cases hjl : j < 8 * (k + 1) / 6
      · have hd : decide (j < 8 * (k + 1) / 6) = true := decide_eq_true hjl
        kcj_in
        refine m_list (xs := natV (figs (8 * (k + 1)) (V * 256 + c) j)) (by kcj_m) slot_list_append (by rfl) ?_
        kcj_in
        obtain ⟨g1, g2, g3⟩ := b2a_numB k hk j hj17 ⟨hj1, hj2, hjl⟩
        refine o_shr g1 ?_
        kcj_in
        rw [g2, b2a_cut _ _ g3]
        have hb6 := b64A_at ((V * 256 + c) / 2 ^ (8 * (k + 1) - 6 * (j + 1)) % 64) (Nat.mod_lt _ (by decide))
        refine i_bytes (Int.natCast_nonneg _) (by rw [Int.toNat_natCast]; exact hb6.1) b64A_size ?_
        rw [hb6.2.1]
        kcj_in
        refine f_append (by tb_rel) ?_ ?_
        · rw [natV_length, figs_length]; exact le_mill (Nat.le_of_lt hj17) (by decide)
        rw [← natV_snoc, ← figs_succ]
        kcj_in
        obtain ⟨g4, g5, g6, g7⟩ := b2a_numC k hk j hj17 ⟨hj1, hj2, hjl⟩
        rw [g4]
        exact wh_next (k := 8 * (k + 1) / 6 - (j + 1)) ⟨j + 1, rfl, g5, g6, rfl⟩ g7
      · have hd : decide (j < 8 * (k + 1) / 6) = false := decide_eq_false hjl
        kcj_in
        refine lp_next ⟨some (.int c 0), ?_⟩
        rw [hV', hend hjl, hk0.2.2.2.1]
    · rw [← figs_more (T := 8 * k) hk0.2.1 hcb, show 8 * (k + 1) = 8 * k + 8 from rfl, hk0.2.2.1]
      rfl
  · rintro σ ⟨bv, rfl⟩
    have hb12 : bs.length ≤ 12 := hlen ▸ hz
    have hfl : (figs (8 * bs.length) (val256 bs) (8 * bs.length / 6)).length ≤ 17 := by rw [figs_length]; exact (b2a_num0 bs.length (Nat.lt_succ_of_le hb12)).2.2.2.2.1
    have hbl : (bytesV b).length = bs.length := by rw [bytesV_nat, hbs, natV_length]
    rw [hbl, List.take_length]
    have fin : ∀ ns : List Nat, ns = b64o bs → ∀ {lc' : Lc}, CallF (W2 w pg loose mg mb) F' E' ⟨lc', (l, .list (natV ns)) :: ob⟩ (.type "bytes") [.ref l] [] fun v => Less (P v) ∘ (fun σ' => ⟨lc, σ'.obj⟩) := fun ns hns lc' => by
      have hlt := b64o_lt bs
      rw [← hns] at hlt
      rw [natV_int]
      refine f_bytes O' (ns := castI ns) (List.mem_cons_self ..) (fun n hn => ?_) ?_ ?_
      · obtain ⟨k, hk, rfl⟩ := List.mem_map.mp hn
        exact ⟨Int.natCast_nonneg _, Int.ofNat_lt.mpr (hlt k hk)⟩
      · rw [castI, List.length_map, hns]
        exact Nat.le_trans (b64o_length bs) (Nat.le_trans (Nat.add_le_add_right (Nat.mul_le_mul_left 8 hb12) 3) (by decide))
      · exact Less.of (keep := ob) (junk := [(l, _)]) (List.perm_append_singleton _ _).symm (h _ ((byteArr_nat hlt).trans hns))
    generalize hV : val256 bs = V at hfl ⊢
    refine nx_next ?_
    rcases (b2a_num0 bs.length (Nat.lt_succ_of_le hb12)).2.2.2.2.2 with hc | hc | hc
    · rw [hc]
      kcj_in
      refine fin _ ?_
      unfold b64o
      rw [hV, hc]; simp
    · rw [hc]
      kcj_in
      refine m_list (xs := natV (figs (8 * bs.length) V (8 * bs.length / 6))) (by kcj_m) slot_list_append (by rfl) ?_
      kcj_in
      rw [(b2a_low V).1]
      refine o_shl (by decide) (by decide) (nat_small (Nat.mod_lt V (by decide)) (by decide)) ?_
      have hb6 := b64A_at (V % 4 * 16) (low_lt V).1
      rw [show ((V % 4 : Nat) : Int) * 2 ^ (4 : Int).toNat = ((V % 4 * 16 : Nat) : Int) from rfl]
      refine i_bytes (Int.natCast_nonneg _) (by rw [Int.toNat_natCast]; exact hb6.1) b64A_size ?_
      rw [hb6.2.1]
      kcj_in
      refine f_append (by tb_rel) (by rw [natV_length]; exact le_mill hfl (by decide)) ?_
      rw [← natV_snoc]
      kcj_in
      refine m_list (xs := _) (by kcj_m) slot_list_append (by rfl) ?_
      kcj_in
      refine f_append (by tb_rel) (le_mill (len1 _ _ hfl) (by decide)) ?_
      rw [natV_61]
      kcj_in
      refine m_list (xs := _) (by kcj_m) slot_list_append (by rfl) ?_
      kcj_in
      refine f_append (by tb_rel) (le_mill (len1 (_ ++ [_]) _ (Nat.le_trans (Nat.le_of_eq List.length_append) (Nat.succ_le_succ hfl))) (by decide)) ?_
      rw [natV_61]
      kcj_in
      refine fin _ ?_
      unfold b64o
      rw [hV, hc]; simp
    · rw [hc]
      kcj_in
      refine m_list (xs := natV (figs (8 * bs.length) V (8 * bs.length / 6))) (by kcj_m) slot_list_append (by rfl) ?_
      kcj_in
      rw [(b2a_low V).2]
      refine o_shl (by decide) (by decide) (nat_small (Nat.mod_lt V (by decide)) (by decide)) ?_
      have hb6 := b64A_at (V % 16 * 4) (low_lt V).2
      rw [show ((V % 16 : Nat) : Int) * 2 ^ (2 : Int).toNat = ((V % 16 * 4 : Nat) : Int) from rfl]
      refine i_bytes (Int.natCast_nonneg _) (by rw [Int.toNat_natCast]; exact hb6.1) b64A_size ?_
      rw [hb6.2.1]
      kcj_in
      refine f_append (by tb_rel) (by rw [natV_length]; exact le_mill hfl (by decide)) ?_
      rw [← natV_snoc]
      kcj_in
      refine m_list (xs := _) (by kcj_m) slot_list_append (by rfl) ?_
      kcj_in
      refine f_append (by tb_rel) (le_mill (len1 _ _ hfl) (by decide)) ?_
      rw [natV_61]
      kcj_in
      refine fin _ ?_
      unfold b64o
      rw [hV, hc]; simp
end

end
/-! text U10 -/
section
end
local macro_rules | `(tactic| lcg_sub) => do
  let t ← tq "c_bytes _"
  `(tactic| with_reducible $t:tactic)
section

section
variable {w : World} {pg : Program} {loose : List Str} {mg mb : Str → Option Value} {F : Fm} {E : Value → Shared → Prop} {lc : Lc} {ob ob' : List (Addr × AO)}

noncomputable def writ (a0 a1 : Nat) (bs : List Nat) : List Nat := (b64o bs).map fun n => if n = 43 then a0 else if n = 47 then a1 else n
theorem t_b64 (O : FmOk (W2 w pg loose mg mb) F) (C : CallOk F) (hr : 3 ≤ F.room) {b : Array UInt8} {a0 a1 : UInt8} (hz : b.size ≤ 12) {P : Value → AS → Prop}
    (h : ∀ c : Array UInt8, c.toList.map (·.toNat) = writ a0.toNat a1.toNat (b.toList.map (·.toNat)) → P (.bytes c 0) ⟨lc, ob⟩) :
    CallF (W2 w pg loose mg mb) F E ⟨lc, ob⟩ (.ref 118) [.bytes b 0, .bytes #[a0, a1] 0] [] P := by
  refine' c_fn (nb := [("s", .bytes b 0), ("altchars", .bytes #[a0, a1] 0)]) (ps := ["s", "altchars"]) (others := ["encoded"]) O C (ho := ?ho) (hcd := ?hcd) (hb := ?hb) (hps := ?hps) (hn := ?hn) (hroom := rm1 hr rfl) (hnf := ?hnf) (hbody := ?hbody) ?_ ?_ ?_
  krn_off
  case hb =>
    exact binds_20 (f := fun a b => [("s", a), ("altchars", b)]) (g := fun a b => [("s", a), ("altchars", b)]) (fun a b S => by kernel_rfl) (fun _ _ => rfl)
  intro F' E' O' C' hr' hs hE hL
  have G : Globs (W2 w pg loose mg mb) F' [("b2a_base64", .ref 110), ("len", .builtin "len"), ("bytes", .type "bytes")] := globs_of hs (by kernel_rfl)
  clear hs O C
  simp only [List.map_cons, List.map_nil, List.cons_append, List.nil_append]
  kcj_in
  refine w_callk1 O' (by kernel_rfl) ?_ (by rfl) (by rfl) (by rfl)
  kcj_in
  refine t_b2a O' C' (rmx hr' hr rfl) hz fun c hc => ?_
  have hcz : c.size ≤ 1000000 := by
    have e := congrArg List.length hc
    have := b64o_length (b.toList.map (·.toNat))
    simp at e this
    omega
  kcj_in
  refine s_assert ?_
  kcj_in
  refine f_len_bytes (by simp) ?_
  kcj_in
  refine ⟨by rfl, ?_⟩
  kcj_in
  refine m_bytes slot_tr type_tr ?_
  kcj_in
  refine m_type O' (v := .builtin "bytes.maketrans") (by rfl) (by decide +kernel) (by kernel_rfl) (by rfl) ?_
  kcj_in
  refine f_maketrans (by rfl) ?_
  kcj_in
  refine f_translate hcz (trTab_size _ _) ?_
  kcj_in
  refine h _ ?_
  unfold writ
  rw [← hc]
  simp only [Array.toList_map, List.map_map]
  refine List.map_congr_left fun x hx => ?_
  show ((trTab #[43, 47] #[a0, a1]).getD x.toNat x).toNat = if x.toNat = 43 then a0.toNat else if x.toNat = 47 then a1.toNat else x.toNat
  rw [trTab_get]
  have e1 : (x = 43) = (x.toNat = 43) := propext ⟨fun e => e ▸ rfl, fun e => UInt8.toNat_inj.mp e⟩
  have e2 : (x = 47) = (x.toNat = 47) := propext ⟨fun e => e ▸ rfl, fun e => UInt8.toNat_inj.mp e⟩
  simp only [e1, e2]
  split
  · rfl
  · split <;> rfl
end

end
/-! text U11 -/
section

noncomputable def val64 (fs : List Nat) : Nat := fs.foldl (fun a f => a * 64 + f) 0
theorem val64_snoc (fs : List Nat) (f : Nat) : val64 (fs ++ [f]) = val64 fs * 64 + f := by simp [val64]
noncomputable def osize (n : Nat) : Nat := (6 * n + 7) / 8
noncomputable def octs (fs : List Nat) : List Nat := (List.range (osize fs.length)).map fun k => val64 fs * 2 ^ (8 * osize fs.length - 6 * fs.length) / 256 ^ (osize fs.length - 1 - k) % 256
theorem natV_at {ns : List Nat} {k : Nat} {v : Value} (h : (natV ns)[k]? = some v) : ∃ n : Nat, ns[k]? = some n ∧ v = .int (n : Int) 0 := by
  unfold natV at h
  rw [List.getElem?_map, Option.map_eq_some_iff] at h
  obtain ⟨n, hn, rfl⟩ := h
  exact ⟨n, hn, rfl⟩

section
variable {W : Wd} {F : Fm} {E : Value → Shared → Prop} {σ : AS}
theorem o_mulL {a b : Int} {t u : Tok} {P : Value → AS → Prop} (hm : a.natAbs < 2 ^ 64) (h : P (.int (a * b) 0) σ) : Op2 W F E σ (.int a t) (.int b u) (binaryOp .Mult) P := o_mul (IntMulOk.of_left (intBits_le_iff.mpr hm)) h
theorem o_mulR {a b : Int} {t u : Tok} {P : Value → AS → Prop} (hm : b.natAbs < 2 ^ 64) (h : P (.int (a * b) 0) σ) : Op2 W F E σ (.int a t) (.int b u) (binaryOp .Mult) P := o_mul (IntMulOk.of_right (intBits_le_iff.mpr hm)) h
end
noncomputable def mapI (g : Int → Int) : Value → Value
  | .int k _ => .int (g k) 0
  | v => v
theorem filter_all {α : Type} (xs : List α) : xs.filter (fun _ => true) = xs := by simp
theorem range_mapI (n : Nat) (g : Int → Int) (h : Nat → Nat) (e : ∀ k, k < n → g (k : Int) = (h k : Int)) : (rangeV 0 n 1).map (mapI g) = natV ((List.range n).map h) := by
  unfold rangeV natV
  rw [List.map_map, List.map_map]
  refine List.map_congr_left fun k hk => ?_
  show Value.int (g (0 + (k : Int) * 1)) 0 = .int (h k : Int) 0
  rw [show 0 + (k : Int) * 1 = (k : Int) from by omega, e k (List.mem_range.mp hk)]
theorem rangeV_mem {n : Nat} {v : Value} (h : v ∈ rangeV 0 n 1) : ∃ k : Nat, k < n ∧ v = .int (k : Int) 0 := by
  unfold rangeV at h
  obtain ⟨k, hk, rfl⟩ := List.mem_map.mp h
  refine ⟨k, List.mem_range.mp hk, ?_⟩
  rw [show 0 + (k : Int) * 1 = (k : Int) from by omega]
theorem small1 {n : Nat} (h : n ≤ 1000000) : Builtin.Range.small 0 (n : Int) 1 = true ∧ Builtin.Range.rangeSize 0 (n : Int) 1 = (n : Int) := by
  have e : Builtin.Range.rangeSize 0 (n : Int) 1 = (n : Int) := by rw [rangeSize_one]; split <;> omega
  refine ⟨?_, e⟩
  unfold Builtin.Range.small
  rw [e]
  have f : ∀ k : Int, -(2 ^ 63) ≤ k → k < 2 ^ 63 → Builtin.Range.rangeFitsLong k = true := fun k h1 h2 => by
    unfold Builtin.Range.rangeFitsLong
    rw [Bool.and_eq_true]; exact ⟨decide_eq_true h1, decide_eq_true h2⟩
  rw [f 0 (by decide) (by decide), f (n : Int) (by omega) (by omega), f 1 (by decide) (by decide), if_pos (by decide), f ((n : Int) + (1 - 1)) (by omega) (by omega)]
  simp

/-! the numbers, for the lengths at hand -/
theorem oct_num0 : ∀ n, n < 17 → osize n < 13 ∧ 8 * osize n - 6 * n ≤ 7 ∧ 8 * ((osize n : Nat) : Int) - 6 * (n : Int) = ((8 * osize n - 6 * n : Nat) : Int) ∧ (6 * (n : Int) + 7).fdiv 8 = ((osize n : Nat) : Int) := by decide +kernel
theorem oct_num1 : ∀ m, m < 13 → ∀ k, k < m → ((m : Nat) : Int) - 1 - (k : Int) = ((m - 1 - k : Nat) : Int) ∧ ((256 ^ (m - 1 - k) : Nat) : Int) ≠ 0 ∧ (((256 ^ (m - 1 - k) : Nat) : Int)).natAbs.log2 < 9000 ∧ ((m - 1 - k : Nat) : Int) ≤ 1000000 := by decide +kernel
section
variable {w : World} {pg : Program} {loose : List Str} {mg mb : Str → Option Value} {F : Fm} {E : Value → Shared → Prop} {lc : Lc} {ob ob' : List (Addr × AO)}

noncomputable abbrev octL (l : Addr) (sz wh : Int) (fg : Option Value) : Lc := [("figures", some (.ref l)), ("size", some (.int sz 0)), ("whole", some (.int wh 0)), ("figure", fg)]
theorem t_octets (O : FmOk (W2 w pg loose mg mb) F) (C : CallOk F) (hr : 2 ≤ F.room) {l : Addr} {fs : List Nat} (hl : (l, AO.list (natV fs)) ∈ ob) (hz : fs.length < 17) {P : Value → AS → Prop}
    (h : ∀ b : Array UInt8, b.toList.map (·.toNat) = octs fs → P (.bytes b 0) ⟨lc, ob⟩) : CallF (W2 w pg loose mg mb) F E ⟨lc, ob⟩ (.ref 838) [.ref l] [] P := by
  refine CallF.less ?_
  refine' c_fn (nb := [("figures", .ref l)]) (ps := ["figures"]) (others := ["size", "whole", "figure"]) O C (ho := ?ho) (hcd := ?hcd) (hb := ?hb) (hps := ?hps) (hn := ?hn) (hroom := rm1 hr rfl) (hnf := ?hnf) (hbody := ?hbody) ?_ ?_ ?_
  krn_off
  case hb =>
    exact binds_10 (f := fun a => [("figures", a)]) (g := fun a => [("figures", a)]) (fun a S => by kernel_rfl) (fun _ => rfl)
  intro F' E' O' C' hr' hs hE hL
  have G : Globs (W2 w pg loose mg mb) F' [("len", .builtin "len"), ("bytes", .type "bytes"), ("range", .type "range")] := globs_of hs (by kernel_rfl)
  have kd : F'.env.kindOf "size" = some .cell ∧ F'.env.kindOf "whole" = some .cell := ⟨by show F'.env.scope.names.lookup _ = _; rw [hs]; rfl, by show F'.env.scope.names.lookup _ = _; rw [hs]; rfl⟩
  clear hs O C
  simp only [List.map_cons, List.map_nil, List.cons_append, List.nil_append]
  have hlen : (natV fs).length = fs.length := natV_length fs
  have hz1 : (natV fs).length ≤ 1000000 := hlen ▸ Nat.le_trans (Nat.le_of_lt hz) (by decide)
  obtain ⟨n1, n2, n3, n4⟩ := oct_num0 fs.length hz
  kcj_in
  refine f_len_list hl hz1 ?_
  rw [hlen]
  refine o_mulL (by decide) ?_
  kcj_in
  refine o_fdiv (by decide) (by decide +kernel) ?_
  rw [n4]
  kcj_in
  refine s_for O' C' hE (natV fs) (fun o => (l, AO.list (natV fs)) ∈ o) (fun k σ => ∃ fg, σ = ⟨octL l (osize fs.length : Nat) (val64 (fs.take k) : Nat) fg, ob⟩) ?_ (fun i σ ⟨fg, e⟩ => by subst e; exact hl) ?_ ?_
  · kcj_in
    exact ⟨Iters.list hl, none, rfl⟩
  · rintro raws Or Cr k v σ hv ⟨fg, rfl⟩
    obtain ⟨n, hn, rfl⟩ := natV_at hv
    kcj_in
    refine o_mulR (by decide) ?_
    kcj_in
    refine lp_next ⟨some (.int n 0), ?_⟩
    have : fs.take (k + 1) = fs.take k ++ [n] := by rw [List.take_add_one, hn]; rfl
    rw [this, val64_snoc]
    rfl
  · rintro σ ⟨fg, rfl⟩
    rw [hlen, List.take_length]
    kcj_in
    refine o_mulL (by decide) ?_
    kcj_in
    refine f_len_list hl hz1 ?_
    rw [hlen]
    refine o_mulL (by decide) ?_
    kcj_in
    rw [n3]
    refine o_pow (Int.natCast_nonneg _) (Int.ofNat_le.mpr (Nat.le_trans n2 (by decide))) (by decide) ?_
    rw [Int.toNat_natCast]
    rw [show (2 : Int) ^ (8 * osize fs.length - 6 * fs.length) = ((2 ^ (8 * osize fs.length - 6 * fs.length) : Nat) : Int) from (Int.natCast_pow 2 _).symm]
    refine o_mulR ?_ ?_
    · rw [Int.natAbs_natCast]
      exact Nat.lt_of_le_of_lt (Nat.pow_le_pow_right (by decide) n2) (by decide)
    rw [← Int.natCast_mul]
    generalize hW : val64 fs * 2 ^ (8 * osize fs.length - 6 * fs.length) = wh
    kcj_in
    refine v_comp O' [("size", .int ((osize fs.length : Nat) : Int) 0), ("whole", .int (wh : Int) 0)] (rangeV 0 (osize fs.length) 1) (fun _ => true) (mapI fun k => ((wh / 256 ^ (osize fs.length - 1 - k.toNat) % 256 : Nat) : Int))
      (by kernel_rfl) (by simp [kd]) ?_
    kcj_in
    refine f_range1 fun r o ho => ?_
    have hsz : osize fs.length ≤ 1000000 := Nat.le_trans (Nat.le_of_lt n1) (by decide)
    refine ⟨⟨by kernel_rfl, by simp [kd], ⟨_, Iters.range (List.mem_cons_self ..) ho (small1 hsz).1 (small1 hsz).2, fun _ _ h => h⟩, by rw [rangeV, List.length_map, List.length_range]; exact hsz, fun C extra cl OG v hv => tests_none, fun C extra cl OG v hv _ => ?_⟩, fun D => ?_⟩
    · obtain ⟨k, hk, rfl⟩ := rangeV_mem hv
      generalize F'.cm _ cl C extra = G at OG
      intro E₁ obs hsub
      simp only [cmL, List.map_cons, List.map_nil]
      kcj_in
      obtain ⟨m1, m2, m3, m4⟩ := oct_num1 _ n1 k hk
      rw [m1]
      refine o_pow (Int.natCast_nonneg _) m4 (by decide) ?_
      rw [Int.toNat_natCast, show (256 : Int) ^ (osize fs.length - 1 - k) = ((256 ^ (osize fs.length - 1 - k) : Nat) : Int) from (Int.natCast_pow 256 _).symm]
      refine o_fdiv m2 m3 ?_
      rw [Int.fdiv_eq_ediv_of_nonneg _ (Int.natCast_nonneg _)]
      kcj_in
      refine o_mod (by decide) ?_
      rw [Int.fmod_eq_emod_of_nonneg _ (by decide), show ((wh : Int) / ((256 ^ (osize fs.length - 1 - k) : Nat) : Int)) % 256 = ((wh / 256 ^ (osize fs.length - 1 - k) % 256 : Nat) : Int) from rfl]
      exact Less.of (keep := obs) (junk := []) (by simp) ⟨rfl, rfl⟩
    · rw [filter_all, range_mapI (osize fs.length) _ (fun k => wh / 256 ^ (osize fs.length - 1 - k) % 256) (fun k hk => by rw [Int.toNat_natCast])]
      have hoc : (List.range (osize fs.length)).map (fun k => wh / 256 ^ (osize fs.length - 1 - k) % 256) = octs fs := by unfold octs; rw [hW]
      rw [hoc, natV_int]
      have hlt : ∀ n ∈ octs fs, n < 256 := fun n hn => by
        obtain ⟨k, _, rfl⟩ := List.mem_map.mp hn
        exact Nat.mod_lt _ (by decide)
      kcj_in
      refine f_bytes O' (ns := castI (octs fs)) (List.mem_cons_self ..) (fun n hn => ?_) ?_ ?_
      · obtain ⟨k, hk, rfl⟩ := List.mem_map.mp hn
        exact ⟨Int.natCast_nonneg _, Int.ofNat_lt.mpr (hlt k hk)⟩
      · rw [castI, List.length_map, octs, List.length_map, List.length_range]; exact hsz
      kcj_in
      exact Less.of (keep := ob) (junk := [(D, _), (r, _)]) (by
        refine (List.perm_append_comm (l₁ := [(D, _), (r, _)]) (l₂ := ob))) (h _ (byteArr_nat hlt))
end

end
/-! text P2 -/
section

noncomputable abbrev S (l : List Nat) : Str := ⟨l.toArray⟩
theorem S_len (l : List Nat) : (S l).length = l.length := by simp [S, Str.length]
theorem S_add (a b : List Nat) : S a ++ S b = S (a ++ b) := by
  apply Str.ext'; rw [Str.cps_append]; simp
theorem S_inj {a b : List Nat} (h : S a = S b) : a = b := by
  have := congrArg (fun x : Str => x.cps.toList) h
  simpa [S] using this
theorem S_self (x : Str) : S x.cps.toList = x := by apply Str.ext'; simp [S]
theorem join_ones (l : List Nat) : Str.join (S []) (l.map fun c => S [c]) = S l := by
  have key : ∀ (l : List Nat) (c : Nat), Str.join (S []) ((c :: l).map fun c => S [c]) = S (c :: l) := by
    intro l
    induction l with
    | nil => intro c; rfl
    | cons d l ih =>
      intro c
      have := ih d
      simp only [List.map_cons] at this ⊢
      show S [c] ++ S [] ++ Str.join (S []) (S [d] :: l.map fun c => S [c]) = _
      rw [this, S_add, S_add]; rfl
  cases l with
  | nil => rfl
  | cons c l => exact key l c
noncomputable def faceL (c0 c1 : Nat) : List Nat := alpha.take 62 ++ [c0, c1]
noncomputable def faceAt (c0 c1 f : Nat) : Nat := (faceL c0 c1).getD f 0
theorem faceL_length (c0 c1 : Nat) : (faceL c0 c1).length = 64 := by simp [faceL, alpha]
noncomputable def wtext (c0 c1 : Nat) (fs : List Nat) : List Nat :=
  let s := fs.map (faceAt c0 c1) ++ (if fs.length % 4 = 0 then [] else [65])
  s ++ List.replicate ((4 - s.length % 4) % 4) 61
theorem face_str : Str.ofString "ABCDEFGHIJKLMNOPQRSTUVWXYZabcdefghijklmnopqrstuvwxyz0123456789" = S (alpha.take 62) := by decide +kernel

end
/-! text U12 -/
section

noncomputable def mapS (g : Int → Str) : Value → Value
  | .int k _ => .str (g k) 0
  | v => v
theorem sum_ones : ∀ l : List Nat, ((l.map fun c => S [c]).map (·.length)).sum = l.length
  | [] => rfl
  | c :: l => by
    rw [List.map_cons, List.map_cons, List.sum_cons, sum_ones l, S_len, List.length_cons, Nat.add_comm]; rfl
theorem e_len0 : (Str.ofString "").length = 0 := by decide +kernel
theorem join_one0 (l : List Nat) : Txt.join (Str.ofString "") (l.map fun c => S [c]) = S l := by
  show PySem.Builtin.Str.glued _ _ = _
  rw [PySem.StrLaws.glued_eq_join]
  exact join_ones _
theorem eA65 : Str.ofString "A" = S [65] := by decide +kernel
theorem eE61 : Str.ofString "=" = S [61] := by decide +kernel
theorem pad4 : ∀ n, n < 18 → (-((n : Nat) : Int)).fmod 4 = (((4 - n % 4) % 4 : Nat) : Int) := by decide +kernel
theorem mul4 : ∀ n : Nat, n < 4 → MulOk (S [61]) ((n : Nat) : Int)
  | 0, _ => ⟨by decide, by decide, by decide +kernel⟩
  | 1, _ => ⟨by decide, by decide, by decide +kernel⟩
  | 2, _ => ⟨by decide, by decide, by decide +kernel⟩
  | 3, _ => ⟨by decide, by decide, by decide +kernel⟩
  | n + 4, h => absurd h (Nat.not_lt.mpr (Nat.le_add_left 4 n))
theorem mul61 (n : Nat) : Txt.mul (S [61]) (n : Int) = S (List.replicate n 61) := by
  have := mul_one_list 61 (n : Int)
  rw [Int.toNat_natCast] at this
  rw [← this]
theorem quads : ∀ n : Nat, n < 17 → (((n : Nat) : Int) % 4 != 0) = !(decide ((n : Nat) % 4 = 0)) := by decide +kernel
theorem S_le {l : List Nat} (h : l.length ≤ 1000) : (S l).length ≤ sizeLine := by rw [S_len, sizeLine_eq]; exact Nat.le_trans h (by decide)
theorem S_le2 {a b : List Nat} (h : a.length ≤ 100) (h' : b.length ≤ 100) : (S a).length + (S b).length ≤ sizeLine := by rw [S_len, S_len, sizeLine_eq]; exact Nat.le_trans (Nat.add_le_add h h') (by decide)
theorem rep_le (n : Nat) : (List.replicate ((4 - n % 4) % 4) 61).length ≤ 100 := by rw [List.length_replicate]; exact Nat.le_trans (Nat.le_of_lt (Nat.mod_lt _ (by decide))) (by decide)
theorem face_some {c0 c1 f : Nat} (h : f < 64) : (faceL c0 c1)[f]? = some (faceAt c0 c1 f) := by
  have : f < (faceL c0 c1).length := by rw [faceL_length]; exact h
  rw [faceAt, List.getD_eq_getElem?_getD, List.getElem?_eq_getElem this]; rfl
section
variable {w : World} {pg : Program} {loose : List Str} {mg mb : Str → Option Value} {F : Fm} {E : Value → Shared → Prop} {lc : Lc} {ob ob' : List (Addr × AO)}

theorem t_writing (O : FmOk (W2 w pg loose mg mb) F) (C : CallOk F) (hr : 2 ≤ F.room) {l : Addr} {fs : List Nat} {c0 c1 : Nat} (hl : (l, AO.list (natV fs)) ∈ ob) (hz : fs.length < 17) (hf : ∀ f ∈ fs, f < 64) {P : Value → AS → Prop}
    (h : P (.str (S (wtext c0 c1 fs)) 0) ⟨lc, ob⟩) : CallF (W2 w pg loose mg mb) F E ⟨lc, ob⟩ (.ref 843) [.ref l, .str (S [c0, c1]) 0] [] P := by
  refine CallF.less ?_
  refine' c_fn (nb := [("figures", .ref l), ("two", .str (S [c0, c1]) 0)]) (ps := ["figures", "two"]) (others := ["face", "signs"]) O C (ho := ?ho) (hcd := ?hcd) (hb := ?hb) (hps := ?hps) (hn := ?hn) (hroom := rm1 hr rfl) (hnf := ?hnf) (hbody := ?hbody) ?_ ?_ ?_
  krn_off
  case hb =>
    exact binds_20 (f := fun a b => [("figures", a), ("two", b)]) (g := fun a b => [("figures", a), ("two", b)]) (fun a b S => by kernel_rfl) (fun _ _ => rfl)
  intro F' E' O' C' hr' hs hE hL
  have G : Globs (W2 w pg loose mg mb) F' [("len", .builtin "len")] := globs_of hs (by kernel_rfl)
  have kd : F'.env.kindOf "face" = some .cell := by show F'.env.scope.names.lookup _ = _; rw [hs]; rfl
  clear hs O C
  simp only [List.map_cons, List.map_nil, List.cons_append, List.nil_append]
  have hlen : (natV fs).length = fs.length := natV_length fs
  have hml : (fs.map (faceAt c0 c1)).length = fs.length := List.length_map ..
  have hm17 : (fs.map (faceAt c0 c1)).length ≤ 16 := hml ▸ Nat.le_of_lt_succ hz
  kcj_in
  refine o_add_str (by rw [face_str]; exact S_le2 (by decide) (Nat.le_of_ble_eq_true rfl)) ?_
  rw [face_str, S_add, show alpha.take 62 ++ [c0, c1] = faceL c0 c1 from rfl]
  kcj_in
  refine m_str PySem.F.slot_str_join PySem.F.type_str_join ?_
  kcj_in
  refine v_comp O' [("face", .str (S (faceL c0 c1)) 0)] (natV fs) (fun _ => true) (mapS fun k => S [faceAt c0 c1 k.toNat]) (by kernel_rfl) (by simp [kd]) ?_
  kcj_in
  refine ⟨⟨by kernel_rfl, by simp [kd], ⟨_, Iters.list hl, fun _ _ h => List.mem_cons_of_mem _ h⟩, hlen ▸ Nat.le_trans (Nat.le_of_lt hz) (by decide), fun C extra cl OG v hv => tests_none, fun C extra cl OG v hv _ => ?_⟩, fun D => ?_⟩
  · obtain ⟨f, hfm, rfl⟩ := List.mem_map.mp hv
    have hf64 := hf f hfm
    generalize F'.cm _ cl C extra = G at OG
    intro E₁ obs hsub
    simp only [cmL, List.map_cons, List.map_nil]
    kcj_in
    refine i_str (c := faceAt c0 c1 f) (Int.natCast_nonneg _) (by rw [Int.toNat_natCast]; exact face_some hf64) (S_le (by rw [faceL_length]; decide)) ?_
    exact Less.of (keep := obs) (junk := []) (by simp) ⟨rfl, rfl⟩
  · have hm : ((natV fs).filter fun _ => true).map (mapS fun k => S [faceAt c0 c1 k.toNat]) = strV ((fs.map (faceAt c0 c1)).map fun c => S [c]) := by
      rw [filter_all]
      simp [natV, strV, mapS, Function.comp_def]
    rw [hm]
    kcj_in
    refine f_join (List.mem_cons_self ..) ?_ ?_
    · rw [sum_ones, e_len0, Nat.mul_zero, Nat.add_zero]; exact Nat.le_trans hm17 (by decide)
    rw [join_one0]
    kcj_in
    refine f_len_list (xs := natV fs) (List.mem_cons_of_mem _ hl) (hlen ▸ Nat.le_trans (Nat.le_of_lt hz) (by decide)) ?_
    rw [hlen]
    kcj_in
    refine o_mod (by decide) ?_
    rw [Int.fmod_eq_emod_of_nonneg _ (by decide)]
    kcj_in
    have hq0 := quads fs.length hz
    dsimp only
    by_cases hq : fs.length % 4 = 0
    · have hq' : ((fs.length : Int) % 4 != 0) = false := hq0.trans (by rw [decide_eq_true hq]; rfl)
      kcj_in
      refine f_len_str (S_le (Nat.le_trans hm17 (by decide))) ?_
      rw [S_len, hml]
      kcj_in
      refine o_mod (by decide) ?_
      rw [pad4 _ (Nat.lt_succ_of_lt hz), eE61]
      refine o_mul_str (mul4 _ (Nat.mod_lt _ (Nat.succ_pos 3))) ?_
      rw [mul61]
      refine o_add_str (S_le2 (Nat.le_trans hm17 (by decide)) (rep_le _)) ?_
      rw [S_add]
      kcj_in
      refine Less.of (keep := ob) (junk := [(D, _)]) (List.perm_append_singleton _ _).symm ?_
      have : wtext c0 c1 fs = fs.map (faceAt c0 c1) ++ List.replicate ((4 - fs.length % 4) % 4) 61 := by
        unfold wtext; simp [hq]
      rw [← this]; exact h
    · have hq' : ((fs.length : Int) % 4 != 0) = true := hq0.trans (by rw [decide_eq_false hq]; rfl)
      kcj_in
      refine o_add_str (by rw [eA65]; exact S_le2 (Nat.le_trans hm17 (by decide)) (by decide)) ?_
      rw [eA65, S_add]
      have h17 : (fs.map (faceAt c0 c1) ++ [65]).length ≤ 17 := by rw [List.length_append]; exact Nat.succ_le_succ hm17
      kcj_in
      refine f_len_str (S_le (Nat.le_trans h17 (by decide))) ?_
      rw [S_len]
      kcj_in
      refine o_mod (by decide) ?_
      rw [pad4 _ (Nat.lt_succ_of_le h17), eE61]
      refine o_mul_str (mul4 _ (Nat.mod_lt _ (Nat.succ_pos 3))) ?_
      rw [mul61]
      refine o_add_str (S_le2 (Nat.le_trans h17 (by decide)) (rep_le _)) ?_
      rw [S_add]
      kcj_in
      refine Less.of (keep := ob) (junk := [(D, _)]) (List.perm_append_singleton _ _).symm ?_
      have : wtext c0 c1 fs = (fs.map (faceAt c0 c1) ++ [65]) ++ List.replicate ((4 - (fs.map (faceAt c0 c1) ++ [65]).length % 4) % 4) 61 := by
        unfold wtext; simp [hq]
      rw [← this]; exact h
end

end
/-! text P3 -/
section
open PySem.Builtin PySem.Builtin.Str

noncomputable def spl (c : Nat) : List Nat → List (List Nat)
  | [] => [[]]
  | x :: r => if x = c then [] :: spl c r else match spl c r with
    | h :: q => (x :: h) :: q
    | [] => [[x]]
noncomputable def joinL (c : Nat) : List (List Nat) → List Nat
  | [] => []
  | [x] => x
  | x :: y :: r => x ++ c :: joinL c (y :: r)
theorem spl_ne (c : Nat) (l : List Nat) : ∃ h q, spl c l = h :: q := by
  induction l with
  | nil => exact ⟨_, _, rfl⟩
  | cons x r ih =>
    obtain ⟨h, q, e⟩ := ih
    unfold spl
    split
    · exact ⟨_, _, rfl⟩
    · rw [e]; exact ⟨_, _, rfl⟩
theorem spl_app (c : Nat) : ∀ (x r : List Nat), c ∉ x → ∃ h q, spl c r = h :: q ∧ spl c (x ++ r) = (x ++ h) :: q
  | [], r, _ => by
    obtain ⟨h, q, e⟩ := spl_ne c r
    exact ⟨h, q, e, by simpa using e⟩
  | a :: x, r, hx => by
    simp only [List.mem_cons, not_or] at hx
    obtain ⟨h, q, e1, e2⟩ := spl_app c x r hx.2
    refine ⟨h, q, e1, ?_⟩
    rw [List.cons_append, spl, if_neg (fun e => hx.1 e.symm), e2]
    rfl
theorem spl_joinL (c : Nat) : ∀ (ps : List (List Nat)), ps ≠ [] → (∀ p ∈ ps, c ∉ p) → spl c (joinL c ps) = ps
  | [], h, _ => absurd rfl h
  | [x], _, h => by
    obtain ⟨h', q, e1, e2⟩ := spl_app c x [] (h x (by simp))
    rw [List.append_nil] at e2
    rw [joinL, e2]
    cases e1
    simp
  | x :: y :: r, _, h => by
    obtain ⟨h', q, e1, e2⟩ := spl_app c x (c :: joinL c (y :: r)) (h x (by simp))
    rw [joinL, e2]
    rw [spl, if_pos rfl] at e1
    cases e1
    rw [spl_joinL c (y :: r) (by simp) fun p hp => h p (List.mem_cons_of_mem _ hp)]
    simp
theorem count_joinL (c : Nat) : ∀ (ps : List (List Nat)), ps ≠ [] → (joinL c ps).count c + 1 = (ps.map (·.count c)).sum + ps.length
  | [], h => absurd rfl h
  | [x], _ => by simp [joinL]
  | x :: y :: r, _ => by
    have := count_joinL c (y :: r) (by simp)
    rw [joinL, List.count_append, List.count_cons_self, List.map_cons, List.sum_cons, List.length_cons]
    omega
theorem join_S (c : Nat) : ∀ ps : List (List Nat), Str.join (S [c]) (ps.map S) = S (joinL c ps)
  | [] => rfl
  | [x] => rfl
  | x :: y :: r => by
    show S x ++ S [c] ++ Str.join (S [c]) ((y :: r).map S) = _
    rw [join_S c (y :: r), S_add, S_add, joinL]
    simp

theorem split_ne (x y : Str) : Txt.split x y ≠ [] := by
  unfold Txt.split
  split
  · simp
  · split
    · simp
    · intro h
      have := congrArg List.length h
      rw [length_partsBetween] at this
      simp at this
theorem split_S (c : Nat) (t : List Nat) : Txt.split (S t) (S [c]) = (spl c t).map S := by
  have e : ((Txt.split (S t) (S [c])).map (·.cps.toList)).map S = Txt.split (S t) (S [c]) := by
    rw [List.map_map]
    conv => rhs; rw [← List.map_id (Txt.split (S t) (S [c]))]
    exact List.map_congr_left fun x _ => S_self x
  have hj := PySem.StrLaws.join_split (S t) (S [c])
  rw [← e, join_S] at hj
  have hne : (Txt.split (S t) (S [c])).map (·.cps.toList) ≠ [] := by
    intro h; exact split_ne _ _ (List.map_eq_nil_iff.mp h)
  have hf : ∀ p ∈ (Txt.split (S t) (S [c])).map (·.cps.toList), c ∉ p := fun p hp => by
    obtain ⟨x, hx, rfl⟩ := List.mem_map.mp hp
    exact PySem.StrLaws.split_free (S t) c x hx
  have h3 := spl_joinL c _ hne hf
  rw [S_inj hj] at h3
  rw [← e, h3]

end
/-! text U13 -/
section

noncomputable def tv (ps : List (List Nat)) : List Value := strV (ps.map S)
theorem tv_mem {ps : List (List Nat)} {v : Value} (h : v ∈ tv ps) : ∃ p ∈ ps, v = .str (S p) 0 := by
  unfold tv strV at h
  rw [List.map_map] at h
  obtain ⟨p, hp, rfl⟩ := List.mem_map.mp h
  exact ⟨p, hp, rfl⟩
theorem tv_all (ps : List (List Nat)) : AllStr (tv ps) := allStr_strV _
theorem tv_length (ps : List (List Nat)) : (tv ps).length = ps.length := by simp [tv, strV]
theorem tv_at {ps : List (List Nat)} {k : Nat} {v : Value} (h : (tv ps)[k]? = some v) : ∃ p, ps[k]? = some p ∧ v = .str (S p) 0 := by
  unfold tv strV at h
  rw [List.map_map, List.getElem?_map, Option.map_eq_some_iff] at h
  obtain ⟨p, hp, rfl⟩ := h
  exact ⟨p, hp, rfl⟩
noncomputable def onS (pp : List Nat → Bool) : Value → Bool
  | .str x _ => pp x.cps.toList
  | _ => false
noncomputable def mapT (g : List Nat → List Nat) : Value → Value
  | .str x _ => .str (S (g x.cps.toList)) 0
  | v => v
theorem tv_comp (ps : List (List Nat)) (pp : List Nat → Bool) (g : List Nat → List Nat) : ((tv ps).filter (onS pp)).map (mapT g) = tv ((ps.filter pp).map g) := by
  induction ps with
  | nil => rfl
  | cons p ps ih =>
    have e : tv (p :: ps) = .str (S p) 0 :: tv ps := rfl
    have e2 : onS pp (.str (S p) 0) = pp p := by simp [onS]
    rw [e, List.filter_cons, e2, List.filter_cons]
    split
    · rw [List.map_cons, ih, List.map_cons]
      have : mapT g (.str (S p) 0) = .str (S (g p)) 0 := by simp [mapT]
      rw [this]; rfl
    · exact ih
theorem S_ne (a b : List Nat) : (S a != S b) = (a != b) := by
  by_cases h : a = b
  · subst h; simp
  · have : S a ≠ S b := fun e => h (S_inj e)
    rw [bne_iff_ne.mpr this, bne_iff_ne.mpr h]
theorem spl_len (c : Nat) : ∀ (t : List Nat), (spl c t).length ≤ t.length + 1 ∧ ∀ r ∈ spl c t, r.length ≤ t.length
  | [] => ⟨Nat.le_refl _, fun r hr => by rw [List.mem_singleton.mp hr]; exact Nat.le_refl _⟩
  | x :: t => by
    obtain ⟨h1, h2⟩ := spl_len c t
    obtain ⟨h, q, e⟩ := spl_ne c t
    unfold spl
    split
    · refine ⟨by simp; omega, fun r hr => ?_⟩
      rcases List.mem_cons.mp hr with rfl | hr
      · simp
      · have := h2 r hr; simp; omega
    · rw [e] at h1 h2 ⊢
      refine ⟨by simp at h1 ⊢; omega, fun r hr => ?_⟩
      rcases List.mem_cons.mp hr with rfl | hr
      · have := h2 h (by simp); simp; omega
      · have := h2 r (by simp [hr]); simp; omega
theorem e10 : Str.ofString "\n" = S [10] := by decide +kernel
theorem e0 : Str.ofString "" = S [] := by decide +kernel
theorem split_tv (c : Nat) (t : List Nat) : strV (Txt.split (S t) (S [c])) = tv (spl c t) := by rw [split_S]; rfl

theorem cmpNe {W : Wd} {F : Fm} {E : Value → Shared → Prop} {σ : AS} {a : List Nat} {t u : Tok} {P : Bool → AS → Prop} (h : P (a != []) σ) : Cmp W F E σ .NotEq (.str (S a) t) (.str (Str.ofString "") u) P := by
  refine x_ne_str ?_
  rw [e0, S_ne]; exact h
theorem sw_comp {elt : Expr} {gens : List Comprehension} {scope : Scope} {pos py : Pos} {y : Str} {line : Nat} {env : Env} (hk : env.scope.kind = .function) (hy : env.kindOf y = some .local)
    (hl : (py.line == pos.line && !(scope.names.any fun (n, k) => n == y && (k == .local || k == .cell))) = true) : swapsWith (.ListComp elt gens scope pos) (some (.Name y py)) line env = pure true := by
  show pure (env.blockKind == .function && env.kindOf y == some .local && py.line == pos.line && !(scope.names.any fun (n, k) => n == y && (k == .local || k == .cell))) = _
  have e : env.blockKind = .function := by unfold Env.blockKind; rw [hk]; rfl
  rw [Bool.and_eq_true] at hl
  rw [e, hy, hl.1, hl.2]; rfl
theorem GoF.less {W : Wd} {F : Fm} {E : Value → Shared → Prop} {σ : AS} {t : Sem Flow} {P : Flow → AS → Prop} (h : GoF W F E σ t fun f => Less (P f)) : GoF W F E σ t P := Go.less h
theorem S_mil {t : List Nat} {n : Nat} (h : t.length ≤ n) (k : Nat.ble n 1000000 = true) : (S t).length ≤ 1000000 := by rw [S_len]; exact Nat.le_trans h (Nat.le_of_ble_eq_true k)
theorem spl_mil {c : Nat} {t : List Nat} {n : Nat} (h : t.length ≤ n) (k : Nat.ble n 100000 = true) : (tv (spl c t)).length ≤ 1000000 := by
  rw [tv_length]; exact Nat.le_trans (spl_len c t).1 (Nat.succ_le_succ (Nat.le_trans h (Nat.le_trans (Nat.le_of_ble_eq_true k) (by decide : 100000 ≤ 999999))))
end
local macro_rules | `(tactic| lcg_off) => do
  let t ← tq "cmpNe _"
  `(tactic| with_reducible $t:tactic)
section
theorem e39 : Str.ofString "'" = S [39] := by decide +kernel
theorem e32 : Str.ofString " " = S [32] := by decide +kernel
theorem filter_true {ps : List (List Nat)} : ((tv ps).filter fun _ => true) = tv ps := by simp
theorem tv_map (ps : List (List Nat)) (g : List Nat → List Nat) : (tv ps).map (mapT g) = tv (ps.map g) := by
  simp [tv, strV, mapT, Function.comp_def]
theorem sum_le : ∀ (l : List (List Nat)) (n : Nat), (∀ p ∈ l, p.length ≤ n) → ((l.map S).map (·.length)).sum ≤ l.length * n
  | [], _, _ => by simp
  | p :: l, n, h => by
    have ih := sum_le l n fun q hq => h q (List.mem_cons_of_mem _ hq)
    have := h p (List.mem_cons_self ..)
    simp only [List.map_cons, List.sum_cons, List.length_cons, S_len, Nat.add_mul, Nat.one_mul] at ih ⊢
    omega
theorem join_txt (c : Nat) (ps : List (List Nat)) : Txt.join (S [c]) (ps.map S) = S (joinL c ps) := by
  show PySem.Builtin.Str.glued _ _ = _
  rw [PySem.StrLaws.glued_eq_join]
  exact join_S c ps
theorem eqNil (p : List Nat) : (S p == S []) = decide (p = []) := by
  by_cases h : p = []
  · subst h; rfl
  · rw [decide_eq_false h, beq_eq_false_iff_ne]
    exact fun e => h (S_inj e)

/-! texts replaced -/
noncomputable def rp (c : Nat) (z : List Nat) (t : List Nat) : List Nat := t.flatMap fun x => if x = c then z else [x]
noncomputable def joinZ (z : List Nat) : List (List Nat) → List Nat
  | [] => []
  | [x] => x
  | x :: y :: r => x ++ (z ++ joinZ z (y :: r))
theorem joinZ_S (z : List Nat) : ∀ ps : List (List Nat), Str.join (S z) (ps.map S) = S (joinZ z ps)
  | [] => rfl
  | [x] => rfl
  | x :: y :: r => by
    show S x ++ S z ++ Str.join (S z) ((y :: r).map S) = _
    rw [joinZ_S z (y :: r), S_add, S_add, joinZ, List.append_assoc]
theorem joinZ_cons (z x : List Nat) {h : List Nat} {q : List (List Nat)} : joinZ z ((x ++ h) :: q) = x ++ joinZ z (h :: q) := by
  cases q with
  | nil => rfl
  | cons a q => simp [joinZ]
theorem joinZ_spl (c : Nat) (z : List Nat) : ∀ t : List Nat, joinZ z (spl c t) = rp c z t
  | [] => rfl
  | x :: t => by
    obtain ⟨h, q, e⟩ := spl_ne c t
    have ih := joinZ_spl c z t
    unfold rp at ih ⊢
    rw [List.flatMap_cons]
    unfold spl
    by_cases hx : x = c
    · rw [if_pos hx, if_pos hx, e]
      rw [e] at ih
      rw [joinZ, List.nil_append, ih]
    · rw [if_neg hx, if_neg hx, e]
      rw [e] at ih
      show joinZ z (([x] ++ h) :: q) = _
      rw [joinZ_cons, ih]
theorem replace_S (c : Nat) (z t : List Nat) : Txt.replace (S t) (S [c]) (S z) = S (rp c z t) := by
  rw [show S [c] = (⟨#[c]⟩ : Str) from rfl, PySem.StrLaws.replace_one, show (⟨#[c]⟩ : Str) = S [c] from rfl, split_S, joinZ_S, joinZ_spl]
theorem rp_le (c : Nat) (z : List Nat) {n : Nat} (hn : z.length ≤ n) (h1 : 1 ≤ n) : ∀ t : List Nat, (rp c z t).length ≤ t.length * n
  | [] => by simp [rp]
  | x :: t => by
    have ih := rp_le c z hn h1 t
    unfold rp at ih ⊢
    rw [List.flatMap_cons, List.length_append, List.length_cons, Nat.add_mul, Nat.one_mul]
    have : (if x = c then z else [x]).length ≤ n := by
      split
      · exact hn
      · exact h1
    omega
theorem e39q : Str.ofString "'\"'\"'" = S [39, 34, 39, 34, 39] := by decide +kernel

end
/-! text N19 -/
section
open PySem.Builtin

noncomputable def reIn (K : Frag) (a : Addr) : Bool := match K.lookup a with
  | some ⟨c, _, .fields fs, _⟩ => c == .type "re.Pattern" && Re.reRawNat (fs.getD 6 .none) == 0 && Re.reRawNat (fs.getD 2 .none) == 0 && (match fs.getD 5 .none with
    | .ref k => (match K.lookup k with
      | some ⟨_, _, .seq its _, _⟩ => (its.map Re.reRawOf).map (·.toNat) == reCode
      | _ => false)
    | _ => false)
  | _ => false
theorem reObj_of {K : Frag} {h : Heap} {a : Addr} (X : K.In h) (e : reIn K a = true) : ReObj h a := by
  unfold reIn at e
  split at e
  · rename_i c d fs sl hl
    simp only [Bool.and_eq_true, beq_iff_eq] at e
    obtain ⟨⟨⟨e1, e2⟩, e3⟩, e4⟩ := e
    split at e4
    · rename_i k hk
      split at e4
      · rename_i oc od its n osl hl2
        exact ⟨_, fs, k, _, its, n, X _ _ hl, e1, rfl, e2, e3, hk, X _ _ hl2, rfl, beq_iff_eq.mp e4⟩
      · cases e4
    · cases e4
  · cases e
noncomputable def seIn (K : Frag) (u a : Addr) : Bool := (match K.lookup u with
  | some ⟨c, none, .fields fs, sl⟩ => c == .type "builtin_function_or_method" && fs == #[.builtin "re.Pattern.search", .ref a] && sl.isEmpty
  | _ => false) && reIn K a
theorem seO_of {K : Frag} {h : Heap} {u a : Addr} (X : K.In h) (e : seIn K u a = true) : h.get? u = some (seO a) ∧ ReObj h a := by
  unfold seIn at e
  rw [Bool.and_eq_true] at e
  refine ⟨?_, reObj_of X e.2⟩
  have e := e.1
  split at e
  · rename_i c fs sl hl
    simp only [Bool.and_eq_true, beq_iff_eq] at e
    obtain ⟨⟨e1, e2⟩, e3⟩ := e
    rw [X _ _ hl, e1, e2]
    have : sl = #[] := Array.isEmpty_iff.mp e3
    rw [this]; rfl
  · cases e

section
variable {W : Wd} {F : Fm} {E : Value → Shared → Prop} {σ : AS} {lc : Lc} {ob ob' : List (Addr × AO)}
theorem f_search (O : FmOk W F) {u a : Addr} {x : Str} {t : Tok} {P : Value → AS → Prop} (hK : seIn W.K u a = true) (hx : 0 < x.length) (hz : x.length ≤ 1000000)
    (h : Sel (x.cps.toList.all safeC) (P .none σ) (∀ r, P (.ref r) σ)) : CallF W F E σ (.ref u) [.str x t] [] P := fun rf rvs rkw h1 h2 h3 s m news R => by
  obtain rfl := nv_ref h1
  obtain ⟨a', rfl, q1⟩ := map1 h2
  obtain ⟨_, rfl⟩ := nv_str q1
  obtain rfl := nk0 h3
  obtain ⟨h1, h2⟩ := seO_of ((R.X O).keeps R.fr.keep) hK
  refine re_call h2 h1 hx hz ?_
  split
  · rename_i hs; exact ⟨σ, m, news, h.1 hs, R⟩
  · rename_i hs
    exact fun r h' k hk => ⟨σ, m, news, h.2 (by simpa using hs) r, R.grow hk k⟩
theorem w_se (O : FmOk W F) {pos : Pos} {u a : Addr} {e : Expr} {P : Value → AS → Prop} (hK : seIn W.K u a = true) {as : List Expr}
    (h : Args W F E σ pos (e :: as) (kCall0 W F E (.ref u) P))
    (he : starEach (e :: as) F.env = (false, eval e F.env) :: starEach as F.env) (hplain : (backTo pos (starEach as F.env)).any (·.1) = false) :
    CallW W F E σ pos (.ref u) [] (e :: as) [] P := fun rf rfirst hf hfi s m news R => by
  obtain rfl := nv_ref hf
  obtain rfl := map0 hfi
  have h' := h s m news R
  rw [he] at h' ⊢
  refine callWith_of (P := fun h => h.get? u = some (seO a)) (by show ((false || (backTo pos (starEach as F.env)).any (·.1)) || false) = false; rw [hplain]; rfl) (fun h hh => ⟨.machine, .inr (.inl rfl), ?_⟩) (evalArgs_plain (wpAny_mono h' (fun vs s₁ ⟨σ₁, m₁, n₁, h₁, R₁⟩ => ?_) fun _ _ e => e))
  · show Looks _ h (keeperOf (.ref u)) _
    unfold keeperOf
    refine (Looks.ld hh).andThen ?_
    exact .now
  · exact ⟨(seO_of ((R₁.X O).keeps R₁.fr.keep) hK).1, h₁ (.ref u) ([] ++ vs) [] rfl rfl rfl s₁ m₁ n₁ R₁⟩

/-! replace, where there is nothing to replace -/
end
end
/-! text U15 -/
section

theorem w_se1 {W : Wd} {F : Fm} {E : Value → Shared → Prop} {σ : AS} (O : FmOk W F) {pos : Pos} {e : Expr} {P : Value → AS → Prop} (hK : seIn W.K 826 123 = true) {as : List Expr}
    (h : Args W F E σ pos (e :: as) (kCall0 W F E (.ref 826) P))
    (he : starEach (e :: as) F.env = (false, eval e F.env) :: starEach as F.env) (hplain : (backTo pos (starEach as F.env)).any (·.1) = false) :
    CallW W F E σ pos (.ref 826) [] (e :: as) [] P := w_se O hK h he hplain
end
local macro_rules | `(tactic| kcf_all) => do
  let t ← tq "w_se1 A K _ W W"
  `(tactic| with_reducible $t:tactic)
section
noncomputable abbrev q5 : List Nat := [39, 34, 39, 34, 39]
noncomputable def quo (p : List Nat) : List Nat := if p = [] then [39, 39] else if p.all safeC then p else 39 :: (rp 39 q5 p ++ [39])
theorem e3939 : Str.ofString "''" = S [39, 39] := by decide +kernel
theorem S_all (p : List Nat) : (S p).cps.toList = p := by simp

section
variable {w : World} {pg : Program} {loose : List Str} {mg mb : Str → Option Value} {F : Fm} {E : Value → Shared → Prop} {lc : Lc} {ob ob' : List (Addr × AO)}

theorem t_quote (O : FmOk (W2 w pg loose mg mb) F) (C : CallOk F) (hr : 1 ≤ F.room) {p : List Nat} (hp : p.length ≤ 1000) {P : Value → AS → Prop}
    (h : P (.str (S (quo p)) 0) ⟨lc, ob⟩) : CallF (W2 w pg loose mg mb) F E ⟨lc, ob⟩ (.ref 833) [.str (S p) 0] [] P := by
  refine CallF.less ?_
  refine' c_fn (nb := [("s", .str (S p) 0)]) (ps := ["s"]) (others := []) O C (ho := ?ho) (hcd := ?hcd) (hb := ?hb) (hps := ?hps) (hn := ?hn) (hroom := rm1 hr rfl) (hnf := ?hnf) (hbody := ?hbody) ?_ ?_ ?_
  krn_off
  case hb =>
    exact binds_10 (f := fun a => [("s", a)]) (g := fun a => [("s", a)]) (fun a S => by kernel_rfl) (fun _ => rfl)
  intro F' E' O' C' hr' hs hE hL
  have G : Globs (W2 w pg loose mg mb) F' [("_find_unsafe", .ref 826)] := globs_of hs (by kernel_rfl)
  clear hs O C
  simp only [List.map_cons, List.map_nil, List.cons_append, List.nil_append]
  have hz : (S p).length ≤ sizeLine := by rw [S_len, sizeLine_eq]; omega
  kcj_in
  by_cases h1 : p = []
  · subst h1
    refine sel_t (by decide) ?_
    kcj_in
    rw [e3939]
    exact Less.of (keep := ob) (junk := []) (by simp) h
  · have hl : 0 < p.length := List.length_pos_iff.mpr h1
    refine sel_f (by rw [S_len]; simp; omega) ?_
    kcj_in
    refine f_search (a := 123) O' (by kernel_rfl) (by rw [S_len]; omega) (by rw [S_len]; omega) ?_
    rw [S_all]
    cases hs : p.all safeC
    · refine sel_f rfl fun r => ?_
      refine c_none (x_is_none ?_)
      refine sel_f rfl (s_nil (nx_next (s_cons (s_ret (v_bin (v_binS strict_str ?_))))))
      kcj_in
      refine v_replaceK (by kernel_rfl) ?_ _ (by with_unfolding_all rfl)
      kcj_in
      have hq : (rp 39 [39, 34, 39, 34, 39] p).length ≤ p.length * 5 := rp_le 39 q5 (by decide) (by decide) p
      refine ⟨S p, rfl, by rw [S_len, e39q, S_len]; simp; omega, ?_⟩
      rw [e39, e39q, replace_S]
      refine o_add_str (by rw [S_len, S_len, sizeLine_eq]; simp; omega) ?_
      rw [S_add]
      kcj_in
      refine o_add_str (by rw [S_len, S_len, sizeLine_eq]; simp; omega) ?_
      rw [S_add]
      exact Less.of (keep := ob) (junk := []) (by simp) (by simpa [quo, h1, hs, retv] using h)
    · refine sel_t rfl ?_
      kcj_in
      exact Less.of (keep := ob) (junk := []) (by simp) (by simpa [quo, h1, hs, retv] using h)
end

end
/-! text M20 -/
section
open PySem.Builtin
open PySem (GenState)

noncomputable def Fm.gen (F : Fm) (A₁ A₂ : Around) (env' : Env) (g : Heap) (cr : List (Addr × Obj)) (n : Nat) : Fm := { A₀ := A₁, A := A₂, base := F.base, outer := F.env :: F.outer, h₀ := g, env := env', os := F.os, rest := F.rest ++ cr, room := F.room - 1, gn := n }
section
variable {W : Wd} {F : Fm} {E : Value → Shared → Prop} {σ : AS} {lc : Lc} {ob ob' : List (Addr × AO)} {s : Shared} {m : Mp} {news : List (Addr × Obj)}
theorem FmOk.gen (O : FmOk W F) {A₁ A₂ : Around} {env' : Env} {g : Heap} {cr : List (Addr × Obj)} {n : Nat} (hk : env'.scope.kind = .function) (hg : env'.globals = mainGlobals) (hb : env'.builtins = builtinsNs) (hh : A₂.handled = none)
    (hd : A₂.depth ≤ F.A.depth + 1) (hu : A₂.units ≤ F.A.units + 10) (hr : 1 ≤ F.room) : FmOk W (F.gen A₁ A₂ env' g cr n) :=
  ⟨O.X, O.T, hk, hg, hb, hh, by have := O.depth; show A₂.depth + (F.room - 1) ≤ 800; omega, by have := O.units; show A₂.units + 10 * (F.room - 1) ≤ 8000; omega⟩

theorem Rep.toGen (O : FmOk W F) (C : CallOk F) (R : Rep F ⟨lc, ob⟩ s m news) {A₁ A₂ : Around} {env' : Env} (hA : A₁.frames = some (F.env :: F.outer)) (hl : env'.locals = s.heap.objs.size) (hc : env'.cells = []) {h' : Heap} {oF : Obj} {mm : Str → Option Value}
    (hn : h'.Ns s.heap.objs.size mm) (hs : Heap.SameBut s.heap.objs.size (s.heap.push oF) h') (t : Nat) {gs : GenState} (hgs : gs.bare = true) {lc' : Lc}
    (h1 : ∀ x v, (x, some v) ∈ lc' → env'.kindOf x = some .local ∧ ∃ u, mm x = some u ∧ nv u = v) (h2 : ∀ p ∈ lc', env'.kindOf p.1 = some .local ∧ (p.1 == ("__debug__" : Str)) = false) (h3 : (lc'.map (·.1)).Nodup) :
    ∃ g cr, Rep (F.gen A₁ A₂ env' g cr (s.gens.size + 1)) ⟨lc', ob⟩ { s with heap := h', toks := t, gens := s.gens.push gs } ⟨mm, g⟩ news ∧
      ∀ {σ' : AS} {s' : Shared} {m' : Mp} {news' : List (Addr × Obj)}, Rep (F.gen A₁ A₂ env' g cr (s.gens.size + 1)) σ' s' m' news' → ∃ m'', Rep F ⟨lc, σ'.obj⟩ s' m'' news' := by
  obtain ⟨cr, hcr, hcr'⟩ := cells_raw R.cel
  have G0 := groundX (R := fun _ _ => True) (A := A₁) R.bl R.fr R.nw hA C.hf O.hk
  have FG := G0.1
  have BG := G0.2.1
  have up : ∀ b o, s.heap.get? b = some o → h'.get? b = some o := fun b o e => (hs.2 b (Nat.ne_of_lt (Heap.lt_size e))).trans (Heap.get?_push_of_some _ e)
  have A1 := List.nodup_append.mp R.apart
  obtain ⟨g, hg⟩ : ∃ g, g = hideAll s.heap (news.map fun p : Addr × Obj => p.1) := ⟨_, rfl⟩
  rw [← hg] at FG BG
  have gup : ∀ b o, g.get? b = some o → s.heap.get? b = some o := fun b o e => of_hideAll _ (hg ▸ e)
  have gno : ∀ p ∈ news, g.get? p.1 = none := fun p hp => by rw [hg]; exact hideAll_none _ (List.mem_map_of_mem hp)
  have gsz : g.objs.size = s.heap.objs.size := by rw [hg, hideAll_size]
  refine ⟨g, cr, ⟨⟨fun x v hx => .inl (h1 x v hx), fun p hp => ⟨.inl (h2 p hp).1, (h2 p hp).2⟩, h3, fun p hp => ?_, R.obj, fun p hp => ?_, ?_⟩, ⟨?_, fun b o e => up b o (gup b o e), ?_⟩, fun p hp => ⟨up _ _ (R.nw p hp).1, ?_, gno p hp⟩, BG, KtsTurn.refl, ⟨AllBare.push R.bare.1 hgs, by rw [Array.size_push]; exact Nat.le_refl _⟩, R.os⟩, fun {σ' s' m' news'} R' => ?_⟩
  · have hp : p ∈ env'.cells := hp
    rw [hc] at hp; cases hp
  · rcases List.mem_append.mp hp with hp | hp
    · exact R.rst p hp
    · exact hcr' p hp
  · show (env'.cells.map (·.2) ++ (addrsOf ob ++ (F.rest ++ cr).map (·.1))).Nodup
    rw [hc, List.map_nil, List.nil_append, List.map_append, ← List.append_assoc, hcr]
    exact List.nodup_append.mpr ⟨A1.2.1, A1.1, fun x hx y hy e => A1.2.2 y hy x hx e.symm⟩
  · show h'.Ns env'.locals mm
    rw [hl]; exact hn
  · show _ ≤ env'.locals
    rw [hl]; exact Nat.le_of_eq gsz
  · show p.1 ≠ env'.locals
    rw [hl]; exact Nat.ne_of_lt (Heap.lt_size (R.nw p hp).1)
  · obtain ⟨h₂, T₂, F₂, B₂⟩ := ground_back R.bl FG C.hf R'.tn
    have hL' : ∃ o, m'.g.get? F.env.locals = some o := by
      obtain ⟨o, _, _, q, _⟩ := F₂.ns
      exact ⟨o, q⟩
    have cell' : ∀ p ∈ F.env.cells, ∀ o, (p.2, o) ∈ news → (p.2, o) ∈ news' := fun p hp o ho => by
      have : p.2 ∈ cr.map (·.1) := hcr ▸ List.mem_map_of_mem hp
      obtain ⟨q, hq, e⟩ := List.mem_map.mp this
      have hq' := hcr' q hq
      have : q = (p.2, o) := Prod.ext e (News.one R.nw (c := p.2) (by rw [← e]; exact hq') ho)
      exact this ▸ R'.rst q (List.mem_append_right _ hq)
    refine ⟨⟨m.m, h₂⟩, ⟨fun x v hx => (R.loc x v hx).to fun c o hc ho' => cell' (x, c) (mem_of_lookup hc) o ho', R.knd, R.nod, fun p hp => ?_, R'.obj, fun p hp => R'.rst p (List.mem_append_left _ hp), ?_⟩, ⟨?_, fun b o e => R'.fr.keep b o (F₂.keep b o e), F₂.above⟩, fun p hp => ⟨(R'.nw p hp).1, fun q => ?_, kts_none F₂.keep (R'.nw p hp).2.2⟩, B₂, R.tn.trans T₂, ⟨R'.bare.1, Nat.le_trans (Nat.le_succ_of_le R.bare.2) R'.bare.2⟩, R'.os⟩
    · obtain ⟨o, u, h1, h2⟩ := R.cel p hp
      exact ⟨o, u, cell' p hp o h1, h2⟩
    · have A2 := (List.nodup_append.mp R'.apart).2.1
      have A2 : (addrsOf σ'.obj ++ (F.rest ++ cr).map (·.1)).Nodup := A2
      rw [List.map_append, ← List.append_assoc, hcr] at A2
      have A3 := List.nodup_append.mp A2
      exact List.nodup_append.mpr ⟨A3.2.1, A3.1, fun x hx y hy e => A3.2.2 y hy x hx e.symm⟩
    · obtain ⟨o, es, ep, q, r⟩ := F₂.ns
      exact ⟨o, es, ep, R'.fr.keep _ _ q, r⟩
    · obtain ⟨o, ho⟩ := hL'
      have := (R'.nw p hp).2.2
      rw [q, ho] at this; cases this
end

end
/-! text M22 -/
section
open PySem.Builtin
open PySem (GenState)

structure Gp where
  G : Fm
  x : Str
  I : Addr
  S : Addr
  a : Addr
  go : Obj
  ob : List (Addr × AO)
  xs : List Value
  f : Value → Value
  It : Nat → Obj → Prop
  ok : List (Addr × AO) → Prop
noncomputable abbrev Gp.lc (p : Gp) (av : Option Value) : Lc := [(".0", some (.ref p.I)), (p.x, av)]
noncomputable abbrev Gp.obs (p : Gp) (acc : List Value) : List (Addr × AO) := (p.S, .list acc) :: (p.a, .raw p.go) :: p.ob
noncomputable def Gp.inv (p : Gp) (i : Nat) (acc : List Value) (s : Shared) : Prop := ∃ o av m news, p.It i o ∧ Rep p.G ⟨p.lc av, (p.I, .raw o) :: p.obs acc⟩ s m news
noncomputable def Gp.fin (p : Gp) (acc : List Value) (s : Shared) : Prop := ∃ av m news, Rep p.G ⟨p.lc av, p.obs acc⟩ s m news
noncomputable def Gp.proto (p : Gp) : Protocol := fun m s₀ v s kap => ∃ i y acc, p.xs[i]? = some y ∧ p.xs.length = i + 1 + m ∧ nv v = p.f y ∧ p.inv i acc s₀ ∧ p.inv (i + 1) acc s ∧ ∀ s'' acc', p.inv (i + 1) acc' s'' → kap (.send .none) s''
noncomputable def Gp.gend (p : Gp) : GenEnd := fun n s₀ r s₁ => r = .ok .next ∧ (n = 0 ∧ ∃ acc, p.inv p.xs.length acc s₀ ∧ p.fin acc s₁)

theorem GOk.set {F : Fm} {s : Shared} {g : Nat} {x : GenState} (h : GOk F s.gens) (hx : x.bare = true) : GOk F (s.setGen g x).gens := by
  refine ⟨fun y hy => ?_, ?_⟩
  · have hy : y ∈ s.gens.setIfInBounds g x := hy
    rcases Array.mem_or_eq_of_mem_setIfInBounds hy with h1 | h1
    · exact h.1 y h1
    · rw [h1]; exact hx
  · show F.gn ≤ (s.gens.setIfInBounds g x).size
    rw [Array.size_setIfInBounds]; exact h.2
theorem Rep.setGen {F : Fm} {σ : AS} {s : Shared} {m : Mp} {news : List (Addr × Obj)} (R : Rep F σ s m news) {g : Nat} {x : GenState} (hx : x.bare = true) : Rep F σ (s.setGen g x) m news :=
  ⟨R.toLed, R.fr, R.nw, R.bl, R.tn, GOk.set R.bare hx, R.os⟩
theorem Gp.inv.setGen {p : Gp} {i : Nat} {acc : List Value} {s : Shared} (h : p.inv i acc s) {g : Nat} {x : GenState} (hx : x.bare = true) : p.inv i acc (s.setGen g x) :=
  let ⟨o, av, m, n, h1, R⟩ := h; ⟨o, av, m, n, h1, R.setGen hx⟩
theorem list_one {F : Fm} {l₁ l₂ : Lc} {o₁ o₂ : List (Addr × AO)} {s : Shared} {m₁ m₂ : Mp} {n₁ n₂ : List (Addr × Obj)} {S : Addr} {a b : List Value} (R₁ : Rep F ⟨l₁, o₁⟩ s m₁ n₁) (R₂ : Rep F ⟨l₂, o₂⟩ s m₂ n₂) (h₁ : (S, AO.list a) ∈ o₁) (h₂ : (S, AO.list b) ∈ o₂) : a = b := by
  obtain ⟨vs, n, e1, e2⟩ := R₁.listAt h₁
  obtain ⟨vs', n', e3, e4⟩ := R₂.listAt h₂
  rw [e1] at e3
  cases e3
  rw [← e2, ← e4]
theorem Gp.inv.one {p : Gp} {i j : Nat} {acc acc' : List Value} {s : Shared} (h : p.inv i acc s) (h' : p.inv j acc' s) : acc = acc' := by
  obtain ⟨o, av, m, n, h1, R⟩ := h
  obtain ⟨o', av', m', n', h1', R'⟩ := h'
  exact list_one R R' (List.mem_cons_of_mem _ (List.mem_cons_self ..)) (List.mem_cons_of_mem _ (List.mem_cons_self ..))

noncomputable abbrev gCode (elt iter : Expr) (x : Str) (px : Pos) (scope : Scope) (pos : Pos) (I : Addr) (env : Env) : Code := .compLoop (.GeneratorExp elt [⟨.Name x px, iter, [], 0⟩] scope pos) 0 (.ref I) .none env
noncomputable abbrev gStart (elt iter : Expr) (x : Str) (px : Pos) (scope : Scope) (pos : Pos) (I : Addr) (env : Env) : Code := .compStart (.GeneratorExp elt [⟨.Name x px, iter, [], 0⟩] scope pos) 0 (.ref I) .none env
structure Gp.Ok (W : Wd) (p : Gp) (A : Around) (elt iter : Expr) (px : Pos) (scope : Scope) (pos : Pos) : Prop where
  O : FmOk W p.G
  C : CallOk p.G
  hA : p.G.A = A.over (gCode elt iter p.x px scope pos p.I p.G.env) []
  O₀ : FmOk W (p.G.at (A.over (gStart elt iter p.x px scope pos p.I p.G.env) []))
  hco : p.G.env.scope.isCoroutine = false
  src : Src W p.It p.xs p.ok
  hok : ∀ acc, p.ok (p.obs acc)
  elt : ∀ v ∈ p.xs, ∀ E obs, GoV W p.G E ⟨p.lc (some v), obs⟩ (eval elt p.G.env) fun y σ' => y = p.f v ∧ σ' = ⟨p.lc (some v), obs⟩

section
variable {W : Wd} {p : Gp} {A : Around} {elt iter : Expr} {px : Pos} {scope : Scope} {pos : Pos}
theorem seg_gp (K : p.Ok W A elt iter px scope pos) :
    ∀ (k i : Nat) (s₀ s : Shared) (acc : List Value), p.xs.length - i = k → i ≤ p.xs.length → p.inv i acc s₀ → p.inv i acc s →
      Seg (model W.prog W.w) A p.gend p.proto (p.xs.length - i) s₀ (gCode elt iter p.x px scope pos p.I p.G.env) ((model W.prog W.w).den (gCode elt iter p.x px scope pos p.I p.G.env)) [] s := by
  intro k
  induction k with
  | zero =>
    intro i s₀ s acc hk hi h₀ h
    obtain ⟨o, av, m, news, hit, R⟩ := h
    have hin : i = p.xs.length := by omega
    subst hin
    show Seg _ A _ _ _ s₀ _ ((compTurn (.GeneratorExp elt [⟨.Name p.x px, iter, [], 0⟩] scope pos) 0 (.ref p.I) .none p.G.env).onRaise (leaving p.G.env)) [] s
    rw [compTurn_gen, Sem.onRaise_eq_wrap]
    refine seg_bind_wrap (wpAny_standAt ?_)
    refine seg_bind_wrap ?_
    rw [← K.hA]
    refine goE (K.src.done K.O hit (K.hok acc) s m news R) (fun r s' σ' m' n' qq R' => ?_)
    obtain ⟨e1, e2⟩ := qq
    subst e1 e2
    exact seg_end (.ok .next) ⟨rfl, Nat.sub_self _, acc, h₀, av, m', n', R'⟩
  | succ k ih =>
    intro i s₀ s acc hk hi h₀ h
    obtain ⟨o, av, m, news, hit, R⟩ := h
    have hlt : i < p.xs.length := by omega
    obtain ⟨n, hn⟩ : ∃ n, p.xs.length - i = n + 1 := ⟨p.xs.length - i - 1, by omega⟩
    show Seg _ A _ _ _ s₀ _ ((compTurn (.GeneratorExp elt [⟨.Name p.x px, iter, [], 0⟩] scope pos) 0 (.ref p.I) .none p.G.env).onRaise (leaving p.G.env)) [] s
    rw [compTurn_gen, Sem.onRaise_eq_wrap]
    refine seg_bind_wrap (wpAny_standAt ?_)
    refine seg_bind_wrap ?_
    rw [← K.hA]
    have hv : p.xs[i]? = some p.xs[i] := List.getElem?_eq_getElem hlt
    refine goE (K.src.item K.O hit hv (K.hok acc) s m news R) (fun r s₁ σ' m₁ n₁ qq R₁ => ?_)
    obtain ⟨⟨rv, e1, e2⟩, o', hit', e3⟩ := qq
    subst e1 e3
    refine seg_bind_wrap (wpAny_of_eq (rfl : letOwnedTupleGo (.Name p.x px) (.ref p.I) rv = pure ()) ?_)
    refine seg_bind_wrap (wpAny_assign_Name ?_)
    rw [← K.hA]
    refine goE (st_name K.O K.C (v := p.xs[i]) (l' := p.lc (some p.xs[i])) (P := fun σ' => σ' = ⟨p.lc (some p.xs[i]), (p.I, .raw o') :: p.obs acc⟩) (.tail .head) rfl rv e2 s₁ m₁ n₁ R₁) (fun _ s₂ σ₂ m₂ n₂ e4 R₂ => ?_)
    subst e4
    refine seg_bind_wrap (wpAny_of_eq (a := true) rfl ?_)
    simp only [if_true]
    have hy : ∀ v, yieldOut p.G.env v = yieldValue v := fun v => by simp only [yieldOut, K.hco, Bool.false_eq_true, if_false]
    simp only [hy]
    rw [Sem.bind_eq_wrap', Sem.bind_eq_wrap', Sem.wrap_wrap, Sem.wrap_wrap]
    refine seg_wrap ?_
    rw [← K.hA]
    refine goE (K.elt p.xs[i] (List.getElem_mem hlt) _ _ s₂ m₂ n₂ R₂) (fun y s₃ σ₃ m₃ n₃ qq R₃ => ?_)
    obtain ⟨e5, e6⟩ := qq
    subst e6
    rw [hn]
    refine seg_at (seg_yield rfl rfl rfl ⟨i, p.xs[i], acc, hv, by omega, e5, h₀, ⟨o', _, m₃, n₃, hit', R₃⟩, fun s'' acc' hi' => ?_⟩)
    have := ih (i + 1) s'' s'' acc' (by omega) hlt hi' hi'
    rw [show p.xs.length - (i + 1) = n from by omega] at this
    exact seg_again rfl this
end

end
/-! text M23 -/
section
open PySem.Builtin
open PySem (GenState)

section
variable {W : Wd} {p : Gp} {A : Around} {elt iter : Expr} {px : Pos} {scope : Scope} {pos : Pos} {E : Value → Shared → Prop}
theorem seg_gp0 (K : p.Ok W A elt iter px scope pos) {s₀ s : Shared} {acc : List Value} (h₀ : p.inv 0 acc s₀) (h : p.inv 0 acc s) :
    Seg (model W.prog W.w) A p.gend p.proto p.xs.length s₀ (gStart elt iter p.x px scope pos p.I p.G.env) ((model W.prog W.w).den (gStart elt iter p.x px scope pos p.I p.G.env)) [] s := by
  show Seg _ A _ _ _ s₀ _ ((compStart (.GeneratorExp elt [⟨.Name p.x px, iter, [], 0⟩] scope pos) 0 (.ref p.I) .none p.G.env).onRaise (leaving p.G.env)) [] s
  unfold compStart
  rw [Sem.onRaise_eq_wrap]
  show Seg _ A _ _ _ s₀ _ ((ask >>= _).wrap _ _ _ _) [] s
  refine seg_bind_wrap (wpAny_askSetting ?_)
  split
  · exact seg_again rfl (seg_gp K _ 0 s₀ s acc rfl (Nat.zero_le _) h₀ h)
  · refine seg_bind_wrap (wpAny_rule ?_)
    show Seg _ A _ _ _ s₀ _ ((standAt iter.pos >>= _).wrap _ _ _ _) [] s
    refine seg_bind_wrap (wpAny_standAt (seg_bind_wrap ?_))
    obtain ⟨o, av, m, news, hit, R⟩ := h
    refine goE (K.src.self K.O₀ hit s m news R.at) (fun r s' σ' m' n' qq R' => ?_)
    obtain ⟨e1, e2⟩ := qq
    subst e1 e2
    exact seg_again rfl (seg_gp K _ 0 s₀ s' acc rfl (Nat.zero_le _) h₀ ⟨o, av, m', n', hit, R'.un⟩)

noncomputable def Gp.at (W : Wd) (p : Gp) (A : Around) (g i : Nat) (acc : List Value) (s : Shared) : Prop :=
  p.inv i acc s ∧ ∃ gs, s.gens[g]? = some gs ∧ ∀ s'' acc', p.inv i acc' s'' → gs.Goes (model W.prog W.w) A p.gend p.proto (p.xs.length - i) (.send .none) s''
noncomputable def Gp.IsG (p : Gp) (g : Nat) : Prop := ∃ nm qn, p.go = { cls := .type "generator", dict := none, data := .fields #[.int g 0, nm, qn], slots := #[] }
theorem Gp.inv.isGen {i g : Nat} {acc : List Value} {s : Shared} (h : p.inv i acc s) (hg : p.IsG g) : s.heap.IsGen p.a g := by
  obtain ⟨o, av, m, news, hit, R⟩ := h
  obtain ⟨nm, qn, e⟩ := hg
  exact ⟨p.go, nm, qn, R.rawAt (by simp), by rw [e], by rw [e], by rw [e]⟩
theorem Gp.inv.noLimit (O : FmOk W p.G) {i : Nat} {acc : List Value} {s : Shared} (h : p.inv i acc s) : s.heap.NoLimit := by
  obtain ⟨o, av, m, news, hit, R⟩ := h
  exact (R.T O).nolimit.keeps R.fr.keep
theorem Gp.inv.size {i : Nat} {acc : List Value} {s : Shared} (h : p.inv i acc s) {g : Nat} (hg : g < p.G.gn) : g < s.gens.size := by
  obtain ⟨o, av, m, news, hit, R⟩ := h
  exact Nat.lt_of_lt_of_le hg R.bare.2
theorem setGen_in {s : Shared} {g : Nat} {x : GenState} (h : g < s.gens.size) : (s.setGen g x).gens[g]? = some x := by
  simp [Shared.setGen, h]

theorem gp_next (K : p.Ok W A.in1 elt iter px scope pos) (hh : A.handled = none) (hroom : A.depth < recursionLimit) {g : Nat} (hg : p.IsG g) (hn : g < p.G.gn) {s : Shared} {i : Nat} {acc : List Value} {Q : Option Value → Shared → Prop}
    (h : p.at W A.in1 g i acc s) {y : Value} (hi : p.xs[i]? = some y) (hQ : ∀ v s', nv v = p.f y → p.at W A.in1 g (i + 1) acc s' → Q (some v) s') : wpAny (model W.prog W.w) A (pyNext (.ref p.a)) Q E s := by
  obtain ⟨hinv, gs, hgs, hgo⟩ := h
  have hlt := (List.getElem?_eq_some_iff.mp hi).1
  obtain ⟨n, hn'⟩ : ∃ n, p.xs.length - i = n + 1 := ⟨p.xs.length - i - 1, by omega⟩
  have hinv' : p.inv i acc (s.setGen g .running) := hinv.setGen rfl
  have hgo' := hgo _ acc hinv'
  rw [hn'] at hgo'
  refine wpAny_pyNext_genexpQ (P := fun n s₀ s₁ => n = 0 ∧ ∃ acc, p.inv p.xs.length acc s₀ ∧ p.fin acc s₁) hh (hinv.noLimit K.O) hroom (hinv.isGen hg) hgs hgo' (fun v s₁ gs' hb hv => ?_) (fun s₁ hp h' hk => ?_)
  · obtain ⟨i', y', acc', hy, hlen, hv, h0, h1, hkap⟩ := hv
    have : i' = i := by omega
    subst this
    obtain rfl := h0.one hinv'
    rw [hi] at hy
    obtain rfl := Option.some.inj hy
    refine hQ v _ hv ⟨h1.setGen hb, gs', setGen_in (h1.size hn), fun s'' acc'' hi'' => ?_⟩
    rw [show p.xs.length - (i' + 1) = n from by omega]
    exact hkap s'' acc'' hi''
  · exact absurd hp.1 (Nat.succ_ne_zero n)
theorem gp_done (K : p.Ok W A.in1 elt iter px scope pos) (hh : A.handled = none) (hroom : A.depth < recursionLimit) {g : Nat} (hg : p.IsG g) (hn : g < p.G.gn) {s : Shared} {acc : List Value} {Q : Option Value → Shared → Prop}
    (h : p.at W A.in1 g p.xs.length acc s) (hQ : ∀ s', p.fin acc s' → Q none s') : wpAny (model W.prog W.w) A (pyNext (.ref p.a)) Q E s := by
  obtain ⟨hinv, gs, hgs, hgo⟩ := h
  have hinv' : p.inv p.xs.length acc (s.setGen g .running) := hinv.setGen rfl
  have hgo' := hgo _ acc hinv'
  rw [Nat.sub_self] at hgo'
  refine wpAny_pyNext_genexpQ (P := fun n s₀ s₁ => n = 0 ∧ ∃ acc, p.inv p.xs.length acc s₀ ∧ p.fin acc s₁) hh (hinv.noLimit K.O) hroom (hinv.isGen hg) hgs hgo' (fun v s₁ gs' hb hv => ?_) (fun s₁ hp h' hk => ?_)
  · obtain ⟨i', y', acc', hy, hlen, hv, h0, h1, hkap⟩ := hv
    exact (hkap s₁ acc' h1).elim
  · obtain ⟨_, acc', h0, h1⟩ := hp
    obtain rfl := h0.one hinv'
    obtain ⟨av, m, news, R⟩ := h1
    exact hQ _ ⟨av, m, news, (R.setGen (x := .finished) rfl).grow hk s₁.toks⟩
end

end
/-! text M24 -/
section
open PySem.Builtin
open PySem (GenState)

section
variable {W : Wd} {p : Gp} {A : Around} {elt iter : Expr} {px : Pos} {scope : Scope} {pos : Pos} {E : Value → Shared → Prop} {F : Fm} {σ : AS} {s : Shared} {m : Mp} {news : List (Addr × Obj)} {ob' : List (Addr × AO)}
theorem wp_upd {prog : Program} {w : World} (R : Rep F σ s m news) {l : Addr} {xs ys : List Value} {f : Array Value → Array Value} (U : PutO l (.list xs) (.list ys) σ.obj ob') (hf : ∀ vs : Array Value, vs.toList.map nv = xs → (f vs).toList.map nv = ys)
    (hx : xs.length ≤ sizeLine) (hy : ys.length ≤ sizeLine + 1) {Q : Unit → Shared → Prop} (h : ∀ h' news', Rep F ⟨σ.loc, ob'⟩ { s with heap := h' } m news' → Q () { s with heap := h' }) : wpAny (model prog w) A (Builtin.List.listUpdate (.ref l) f) Q E s := by
  obtain ⟨vs, n, hm, hv⟩ := R.obj (l, .list xs) U.mem
  have hz : vs.size ≤ sizeLine := by have := congrArg List.length hv; simp at this; rw [this]; exact hx
  have hz2 : (f vs).size ≤ sizeLine + 1 := by have := congrArg List.length (hf vs hv); simp at this; rw [this]; exact hy
  obtain ⟨news', R'⟩ := R.setList U hm (hf vs hv) s.toks
  exact listUpdate_at (R.nw _ hm).1 rfl (h _ _ R') hz hz2

theorem gp_loop (K : p.Ok W A.in1.in1 elt iter px scope pos) (hh : A.handled = none) (hroom : A.depth < recursionLimit) {g : Nat} (hg : p.IsG g) (hn : g < p.G.gn) (hz : p.xs.length ≤ 1000000) {R : Result → Shared → Prop} {res : Value}
    (hR : ∀ s', p.fin (p.xs.map p.f) s' → R (.ok (.ret res)) s') :
    ∀ (k i : Nat) (s : Shared), p.xs.length - i = k → i ≤ p.xs.length → p.at W A.in1.in1 g i ((p.xs.take i).map p.f) s → codeAny (model W.prog W.w) A (.builtin "list.extend.loop" ⟨[.ref p.S, .ref p.a, res], []⟩) R s := by
  intro k
  induction k with
  | zero =>
    intro i s hk hi h
    have : i = p.xs.length := by omega
    subst this
    rw [List.take_length] at h
    refine codeAny_builtin PySem.F.entry_extend_loop ?_
    rw [Around.under_plainId PySem.F.plain_extend_loop _]
    show wpAny _ A.in1 (pyNext (.ref p.a) >>= _) _ _ s
    refine wpAny_bind (gp_done K hh hroom hg hn h fun s' hf => ?_)
    exact wpAny_pure (hR s' hf)
  | succ k ih =>
    intro i s hk hi h
    have hlt : i < p.xs.length := by omega
    refine codeAny_builtin PySem.F.entry_extend_loop ?_
    rw [Around.under_plainId PySem.F.plain_extend_loop _]
    show wpAny _ A.in1 (pyNext (.ref p.a) >>= _) _ _ s
    refine wpAny_bind (gp_next K hh hroom hg hn h (List.getElem?_eq_getElem hlt) fun v s' hvv h' => ?_)
    show wpAny _ A.in1 (Builtin.List.listUpdate (.ref p.S) (·.push v) >>= _) _ _ _
    obtain ⟨⟨o, av, m, news, hit, R'⟩, gs, hgs, hgo⟩ := h'
    have hle : ((p.xs.take i).map p.f).length ≤ p.xs.length := by simp; omega
    refine wpAny_bind (wp_upd R' (ob' := (p.I, .raw o) :: p.obs ((p.xs.take (i + 1)).map p.f)) (.tail .head) (fun vs hvs => ?_) (by rw [sizeLine_eq]; omega) (by rw [sizeLine_eq, List.length_map, List.length_take]; omega) fun h' news' R'' => ?_)
    · rw [List.take_succ_eq_append_getElem hlt, Array.toList_push, List.map_append, List.map_append, hvs]
      show _ ++ [nv v] = _ ++ [p.f p.xs[i]]
      rw [hvv]
    · exact wpAny_pure ⟨plainId_quiet PySem.F.plain_extend_loop _, ih (i + 1) _ (by omega) hlt ⟨⟨o, av, m, news', hit, R''⟩, gs, hgs, hgo⟩⟩

theorem gp_collect (K : ∀ S, Gp.Ok W { p with S := S } A.in1.in1 elt iter px scope pos) (hh : A.handled = none) (hroom : A.depth < recursionLimit) {g : Nat} (hg : p.IsG g) (hn : g < p.G.gn) (hz : p.xs.length ≤ 1000000) {Q : List Value → Shared → Prop} {av : Option Value} {o : Obj}
    (R : Rep p.G ⟨p.lc av, (p.I, .raw o) :: (p.a, .raw p.go) :: p.ob⟩ s m news) (hit : p.It 0 o) (hgs : s.gens[g]? = some (.fresh (gStart elt iter p.x px scope pos p.I p.G.env)))
    (hQ : ∀ vs s' av m' news', vs.map nv = p.xs.map p.f → Rep p.G ⟨p.lc av, (p.a, .raw p.go) :: p.ob⟩ s' m' news' → Q vs s') : wpAny (model W.prog W.w) A (collect (.ref p.a)) Q E s := by
  obtain ⟨nm, qn, hgo⟩ := hg
  unfold collect
  refine wpAny_bind (wpAny_runValue (codeAny_builtin PySem.F.entry_proto_collect ?_))
  rw [Around.under_plainId PySem.F.plain_proto_collect _]
  show wpAny _ A.in1 (newList [] >>= fun l => again (.builtin "list.__iadd__" ⟨[l, .ref p.a], []⟩)) _ _ s
  refine wpAny_bind (wpAny_newObj_type ?_)
  refine wpAny_pure ⟨plainId_quiet PySem.F.plain_list_iadd _, codeAny_builtin PySem.F.entry_list_iadd ?_⟩
  rw [Around.under_plainId PySem.F.plain_list_iadd _]
  show wpAny _ A.in1 (Builtin.List.listExtendWith (.ref s.heap.objs.size) (.ref p.a) (.ref s.heap.objs.size)) _ _ _
  generalize hS : s.heap.objs.size = S
  have R₁ : Rep p.G ⟨p.lc av, (S, .list []) :: (p.I, .raw o) :: (p.a, .raw p.go) :: p.ob⟩ { s with heap := s.heap.push { cls := .type "list", data := .seq #[] } } m ((S, { cls := .type "list", data := .seq #[] }) :: news) := by
    subst hS
    exact R.add (add := [_]) (t := s.toks) (R.fr.push _) (R.nw.push R.fr _) (by simp [AO.addrs]) (fun b hb o => fresh_size R (by simp only [AO.addrs, List.mem_singleton] at hb; exact hb ▸ Nat.le_refl _) o) ⟨#[], 0, List.mem_cons_self .., rfl⟩
  have hIG : ∀ {s' : Shared} {l : Lc} {ob m n}, Rep p.G ⟨l, ob⟩ s' m n → (p.a, AO.raw p.go) ∈ ob → s'.heap.IsGen p.a g := fun R h => ⟨p.go, nm, qn, R.rawAt h, by rw [hgo], by rw [hgo], by rw [hgo]⟩
  have hne : S ≠ p.a := by
    have := R₁.nd
    intro e
    rw [e] at this
    simp [addrsOf, AO.addrs] at this
  show wpAny _ A.in1 (Builtin.List.listExtendWith (.ref S) (.ref p.a) (.ref S)) _ _ { s with heap := s.heap.push { cls := .type "list", data := .seq #[] } }
  unfold Builtin.List.listExtendWith
  have hG := hIG R₁ (by simp)
  refine wpAny_bind (wpAny_typeOf hG.typeIs ?_)
  have h1 : Builtin.List.listSameRef (.ref S) (.ref p.a) = false := by simp [Builtin.List.listSameRef, hne]
  have h2 : (Value.type "generator" == Value.type "list") = false := by decide
  have h3 : (Value.type "generator" == Value.type "tuple") = false := by decide
  simp only [h1, h2, h3, Bool.or_false, Bool.false_eq_true, if_false]
  refine wpAny_bind (wpAny_pyIter_gen hG ?_)
  refine wpAny_bind (wpAny_holding ?_)
  unfold Builtin.List.listLengthHint
  refine wpAny_bind (wpAny_specialOf hG.typeIs PySem.F.gen_no_len ?_)
  show wpAny _ A.in1 (specialOf (Value.ref p.a) (Str.ofString "__length_hint__") >>= _) _ _ _
  refine wpAny_bind (wpAny_specialOf hG.typeIs PySem.F.gen_no_hint ?_)
  refine wpAny_pure ?_
  show wpAny _ A.in1 (rule "list.extend.makes-room" >>= fun _ => Builtin.List.listTouch (.ref S) >>= fun _ =>
    again (.builtin "list.extend.loop" ⟨[.ref S, .ref p.a, .ref S], []⟩)) _ _ _
  refine wpAny_bind (wpAny_rule ?_)
  refine wpAny_bind ?_
  unfold Builtin.List.listTouch
  refine wpAny_bind (wp_upd R₁ (ys := [.none]) .head (fun vs hvs => by simp [hvs, nv]) (Nat.zero_le _) (by rw [sizeLine_eq]; decide) fun h₂ n₂ R₂ => ?_)
  refine wp_upd R₂ (ys := []) .head (fun vs hvs => ?_) (by rw [sizeLine_eq]; decide) (Nat.zero_le _) fun h₃ n₃ R₃ => ?_
  · rw [Array.toList_pop, List.map_dropLast, hvs]; rfl
  refine wpAny_pure ⟨plainId_quiet PySem.F.plain_extend_loop _, gp_loop (p := { p with S := S }) (K S) hh hroom ⟨nm, qn, hgo⟩ hn hz (fun s' hf => ?_) _ 0 _ rfl (Nat.zero_le _) ⟨⟨o, av, m, n₃, hit, ?_⟩, _, hgs, fun s'' acc' hi => ⟨rfl, ?_⟩⟩⟩
  · obtain ⟨av', m', n', R'⟩ := hf
    obtain ⟨vs, n, e1, e2⟩ := R'.listAt (List.mem_cons_self ..)
    show wpAny _ A (load S >>= _) _ _ s'
    refine wpAny_bind (wpAny_load e1 ?_)
    exact wpAny_pure (hQ vs.toList s' av' m' n' e2 (Rep.keep (lc := p.lc av') (junk := [(S, .list (p.xs.map p.f))]) R' (List.perm_append_singleton _ _).symm))
  · exact Rep.keep (lc := p.lc av) (junk := []) R₃ (by rw [List.append_nil]; exact List.Perm.swap ..)
  · exact seg_gp0 (K S) hi hi
end

end
/-! text M25 -/
section
open PySem.Builtin
open PySem (GenState)
open PySem.Builtin.Str

section
variable {W : Wd} {p : Gp} {A : Around} {elt iter : Expr} {px : Pos} {scope : Scope} {pos : Pos} {E : Value → Shared → Prop} {F : Fm} {σ : AS} {s : Shared} {m : Mp} {news : List (Addr × Obj)} {lc : Lc} {ob : List (Addr × AO)}
theorem gp_join (K : ∀ S, Gp.Ok W { p with S := S } A.in1.in1.in1 elt iter px scope pos) (hh : A.handled = none) (hroom : A.depth < recursionLimit) {g : Nat} (hg : p.IsG g) (hn : g < p.G.gn) (hz : p.xs.length ≤ 1000000) {av : Option Value} {o : Obj}
    (R : Rep p.G ⟨p.lc av, (p.I, .raw o) :: (p.a, .raw p.go) :: p.ob⟩ s m news) (hit : p.It 0 o) (hgs : s.gens[g]? = some (.fresh (gStart elt iter p.x px scope pos p.I p.G.env)))
    {sep : Str} {t : Tok} {ys : List Str} (hy : p.xs.map p.f = strV ys) (hok : JoinOk sep ys = true) {Q : Value → Shared → Prop}
    (hQ : ∀ t' s' av m' news', Rep p.G ⟨p.lc av, (p.a, .raw p.go) :: p.ob⟩ s' m' news' → Q (.str (Txt.join sep ys) t') s') : wpAny (model W.prog W.w) A (call (.builtin "str.join") [.str sep t, .ref p.a]) Q E s := by
  have hG : s.heap.IsGen p.a g := by
    obtain ⟨nm, qn, hgo⟩ := hg
    exact ⟨p.go, nm, qn, R.rawAt (by simp), by rw [hgo], by rw [hgo], by rw [hgo]⟩
  refine wpAny_call (codeAny_call_builtin PySem.F.slot_str_join.plain PySem.F.entry_str_join (PySem.F.slot_str_join.check _ _ _ _ _ _ _ _ (typeIs_str _ _ _) (PySem.F.args_str_join_2 _ _) ?_))
  rw [join_tree_other]
  refine wpAny_bind (wpAny_typeOf hG.typeIs ?_)
  show wpAny _ A.in1 ((pyIter (.ref p.a)).tryCatch _ >>= fun it => collect it >>= fun items => joinTail sep items) _ _ s
  refine wpAny_bind (wpAny_tryCatch (wpAny_pyIter_gen hG ?_))
  refine wpAny_bind (gp_collect (A := A.in1) K hh hroom hg hn hz R hit hgs fun vs s' av m' news' hvs R' => ?_)
  rw [hy] at hvs
  obtain ⟨l, hl⟩ := exists_strValues vs fun v hv => by
    have : nv v ∈ strV ys := hvs ▸ List.mem_map_of_mem hv
    obtain ⟨y, _, e⟩ := List.mem_map.mp this
    obtain ⟨u, rfl⟩ := nv_str e.symm
    exact ⟨y, u, rfl⟩
  have hly : l.map (·.1) = ys := by
    have e := strV_map l
    rw [hl, hvs] at e
    have inj : ∀ (a b : List Str), strV a = strV b → a = b := by
      intro a
      induction a with
      | nil => intro b h; cases b with
        | nil => rfl
        | cons _ _ => cases h
      | cons x a ih => intro b h; cases b with
        | nil => cases h
        | cons y b =>
          simp only [strV, List.map_cons, List.cons.injEq, Value.str.injEq] at h
          rw [h.1.1, ih b h.2]
    exact (inj _ _ e).symm
  rw [← hl]
  have hok' : tooLong ((l.map (·.1)).toArray.foldl (· + ·.length + sep.length) 0) = false := by
    rw [hly]
    unfold JoinOk at hok
    rwa [Bool.not_eq_true'] at hok
  have gv : Gives (joinTail sep (strValues l)) (joinMade sep l) := by
    have g0 := gives_joinTail sep l hok'
    cases l with
    | nil => exact g0
    | cons p r => cases r with
      | nil => exact g0
      | cons q r' => exact g0
  refine gv W.prog W.w _ (wants Q E) s' (post_join l ⟨joinFit_length hok', fun t' k => ?_⟩)
  show Q _ _
  rw [hly]
  exact hQ t' { s' with toks := k } av m' news' (R'.tok k)

/-! the code table of a def -/
noncomputable def tabO (ps : Array Value) : Obj := { cls := .none, data := .fields ps }
noncomputable def codeAtB (K : Frag) (c P : Addr) : Bool := match K.lookup c with
  | some ⟨cl, _, .fields vs, _⟩ => cl == .type "code" && vs[11]? == some (.ref P) && (match vs.getD 18 .none with | .str _ _ => true | _ => false) && (match vs.getD 7 .none with | .int _ _ => true | _ => false) &&
    (match vs.getD 9 .none with | .bool _ => true | _ => false) && (match vs.getD 10 .none with | .int _ _ => true | _ => false) && !(c == P)
  | _ => false
theorem isCode_of {K : Frag} {h : Heap} {c P : Addr} {ps : Array Value} (X : K.In h) (e : codeAtB K c P = true) (hP : h.get? P = some (tabO ps)) (ht : TriplesOk ps.toList) : h.IsCode c P ps ∧ h.TableAt c P ps := by
  unfold codeAtB at e
  split at e
  · rename_i cl d vs sl hl
    simp only [Bool.and_eq_true, beq_iff_eq, Bool.not_eq_true', beq_eq_false_iff_ne] at e
    obtain ⟨⟨⟨⟨⟨⟨e1, e2⟩, e3⟩, e4⟩, e5⟩, e6⟩, e7⟩ := e
    have ho := X _ _ hl
    have h11 : vs.getD 11 .none = .ref P := by rw [Array.getD_eq_getD_getElem?, e2]; rfl
    split at e3
    · rename_i f tf h18
      split at e4
      · rename_i fl tg h7
        split at e5
        · rename_i b h9
          split at e6
          · rename_i tx tt h10
            exact ⟨⟨_, vs, f, tf, fl, tg, b, tx, tt, _, ho, rfl, h11, h18, h7, h9, h10, hP, rfl, ht, e7⟩, ⟨_, vs, ho, e1, rfl, e2⟩, hP⟩
          · cases e6
        · cases e5
      · cases e4
    · cases e3
  · cases e
theorem Rep.setRawX {ob' : List (Addr × AO)} (R : Rep F σ s m news) {a : Addr} {o o' : Obj} (U : PutO a (.raw o) (.raw o') σ.obj ob') {h' : Heap} (hg : h'.get? a = some o') (hs : Heap.ExtBut a s.heap h') (t : Nat) :
    Rep F ⟨σ.loc, ob'⟩ { s with heap := h', toks := t } m ((a, o') :: drop a news) := by
  have hm : (a, o) ∈ news := R.obj _ U.mem
  have hq := R.nw _ hm
  refine R.putO U rfl (List.mem_cons_self ..) ⟨?_, fun b x e => hs b x (fun q => by rw [q, hq.2.2] at e; cases e) (R.fr.keep b x e), R.fr.above⟩ (fun p hp => ?_) (List.mem_cons_self ..)
  · obtain ⟨oL, a1, a2, hL, a3⟩ := R.fr.ns
    exact ⟨oL, a1, a2, hs _ _ (fun e => hq.2.1 e.symm) hL, a3⟩
  · rcases List.mem_cons.mp hp with rfl | hp
    · exact ⟨hg, hq.2⟩
    · exact ⟨hs _ _ (drop_mem hp).2 (R.nw _ (drop_mem hp).1).1, (R.nw _ (drop_mem hp).1).2⟩
theorem PutO.alike {a : Addr} {x : AO} {l l' : List (Addr × AO)} (h : PutO a x x l l') : l' = l := by
  induction h with
  | head => rfl
  | tail _ ih => rw [ih]
theorem g_code {env : Env} {c P : Addr} {ps : Array Value} {qual : Str} {ob' : Array Value → List (Addr × AO)} (O : FmOk W F) (hc : env.code = .ref c) (hK : codeAtB W.K c P = true) (ht : TriplesOk ps.toList) (R : Rep F ⟨lc, ob⟩ s m news) (U : ∀ ps', PutO P (.raw (tabO ps)) (.raw (tabO ps')) ob (ob' ps'))
    {Q : Value → Shared → Prop} (hQ : ∀ code h' tk more news', TriplesOk (ps ++ more).toList → Rep F ⟨lc, ob' (ps ++ more)⟩ { s with heap := h', toks := tk } m news' → Q code { s with heap := h', toks := tk }) :
    wpAny (model W.prog W.w) A (genexprCode env pos qual scope) Q E s := by
  have X := (R.X O).keeps R.fr.keep
  obtain ⟨hok, htab⟩ := isCode_of X hK (R.rawAt (U #[]).mem) ht
  cases hnf : codeAmong pos ps.toList with
  | none =>
    refine wpAny_genexprCodeX hc hok htab hnf fun c' h' tk hx _ _ _ _ htab' _ => ?_
    exact hQ _ h' tk _ _ (by rw [Array.toList_append]; exact TriplesOk_snoc _ _ _ _ ht) (R.setRawX (U _) htab'.2 hx tk)
  | some cv =>
    obtain ⟨o, vs, file, tf, flags, tg, inF, text, tt, op, ho, hd, h11, h2, h7, h9, h10, hop, hpd, htr, hne⟩ := id hok
    unfold genexprCode codeAt
    rw [hc, if_neg (show ¬ ((Value.ref c == Value.none) = true) from Bool.false_ne_true)]
    refine wpAny_bind (wpAny_fieldsOf ho hd ?_)
    rw [h11]
    refine wpAny_bind (wpAny_fieldsOf hop hpd ?_)
    rw [hnf]
    refine wpAny_pure (hQ cv s.heap s.toks #[] news (by simpa using ht) ?_)
    rw [Array.append_empty, (U ps).alike]
    exact R
end

end
/-! text M26 -/
section
open PySem.Builtin
open PySem (GenState)

noncomputable def BM (h : Heap) : Prop := ∃ mg bm ob, BMod h mainGlobals mg bm ob
section
variable {W : Wd} {elt iter : Expr} {px : Pos} {scope : Scope} {gp pos : Pos} {E : Value → Shared → Prop} {F : Fm} {σ : AS} {s : Shared} {m : Mp} {news : List (Addr × Obj)} {lc : Lc} {ob : List (Addr × AO)}
theorem w_joingen (O : FmOk W F) (C : CallOk F) (hr : 2 ≤ F.room) {c P : Addr} {ps : Array Value} (hcode : F.env.code = .ref c) (hK : codeAtB W.K c P = true) (ht : TriplesOk ps.toList) (hbm : BM F.base)
    {ob' : Array Value → List (Addr × AO)} (U : ∀ ps', PutO P (.raw (tabO ps)) (.raw (tabO ps')) ob (ob' ps')) {x : Str} {iv : Value} {xs : List Value} {ok : List (Addr × AO) → Prop} {f : Value → Value}
    (hiter : ∀ E, GoV W F E ⟨lc, ob⟩ (eval iter F.env) fun v σ₁ => v = iv ∧ σ₁ = ⟨lc, ob⟩) (hI : Iters W iv ob xs ok) (hok : ∀ ps' p q, ok (p :: q :: ob' ps'))
    (hclos : closureFor scope F.env = pure []) (hcell : ∀ y ∈ scope.names, y.2 ≠ .cell) (hfree : ∀ y, scope.names.lookup y ≠ some .free) (h0 : scope.names.lookup (".0" : Str) = some NameKind.local) (hx : scope.names.lookup x = some .local)
    (hkind : scope.kind = .function) (hco : scope.isCoroutine = false) (hx0 : x ≠ (".0" : Str)) (hxd : (x == ("__debug__" : Str)) = false)
    (hfold : ∀ x, genFold iter F.env x = pure x) (hz : xs.length ≤ 1000000)
    (helt : ∀ G, FmOk W G → CallOk G → G.room + 1 = F.room → G.env.scope = scope → ∀ I v, v ∈ xs → ∀ E obs, GoV W G E ⟨[(".0", some (.ref I)), (x, some v)], obs⟩ (eval elt G.env) fun y σ' => y = f v ∧ σ' = ⟨[(".0", some (.ref I)), (x, some v)], obs⟩)
    {sep : Str} {t : Tok} {ys : List Str} (hy : xs.map f = strV ys) (hjoin : JoinOk sep ys = true) {Q : Value → AS → Prop}
    (hQ : ∀ more, TriplesOk (ps ++ more).toList → Q (.str (Txt.join sep ys) 0) ⟨lc, ob' (ps ++ more)⟩) :
    CallW W F E ⟨lc, ob⟩ pos (.builtin "str.join") [.str sep t] [.GeneratorExp elt [⟨.Name x px, iter, [], 0⟩] scope gp] [] Q := fun rf rfirst hf hfi s m news R => by
  obtain rfl := nv_builtin hf
  obtain ⟨v, rfl, qv⟩ := map1 hfi
  obtain ⟨u, rfl⟩ := nv_str qv
  have he : starEach [.GeneratorExp elt [⟨.Name x px, iter, [], 0⟩] scope gp] F.env = (false, eval (.GeneratorExp elt [⟨.Name x px, iter, [], 0⟩] scope gp) F.env) :: starEach [] F.env := rfl
  have key : wpAny (model W.prog W.w) F.A (spliced (backTo pos (starEach [.GeneratorExp elt [⟨.Name x px, iter, [], 0⟩] scope gp] F.env)))
      (fun vs s₁ => True ∧ wpAny (model W.prog W.w) F.A (call (.builtin "str.join") ([.str sep u] ++ vs) []) (fun v s' => ∃ σ' m' news', Q (nv v) σ' ∧ Rep F σ' s' m' news') E s₁) E s := by
    refine wpAny_items_cons ?_ he
    refine wpAny_GeneratorExp_make (cl := []) hco hclos hcell h0 hkind (by have := O.depth; show F.A.depth < 1000; omega) ?_ hfold
    refine goE (hiter E s m news R) (fun xv s₁ σ₁ m₁ n₁ qq R₁ => ?_)
    obtain ⟨e1, e2⟩ := qq
    subst e2
    refine goE (hI.2 O e1 s₁ m₁ n₁ R₁) (fun it s₂ σ₂ m₂ n₂ qq R₂ => ?_)
    obtain ⟨I, o, It, e3, e4, hit, S⟩ := qq
    subst e3 e4
    refine ⟨(R₂.T O).nolimit.keeps R₂.fr.keep, g_code (ob' := fun ps' => (I, .raw o) :: ob' ps') O hcode hK ht R₂ (fun ps' => .tail (U ps')) fun code h₃ tk₃ more n₃ ht' R₃ => ?_⟩
    obtain ⟨mg, bm, bo, B⟩ := hbm
    have B₃ := B.keeps (h' := h₃) fun b o e => R₃.fr.keep b o (R₃.bl.stays b o e)
    rw [O.hg, O.hb]
    refine wpAny_builtinsFor B₃.ns B₃.name B₃.ne B₃.obj B₃.cls B₃.dict B₃.data fun h₄ hn hs => ?_
    refine wpAny_items_nil ⟨trivial, ?_⟩
    generalize hC : h₃.objs.size = C₀ at hn hs
    have hn' : h₄.Ns ({ s₂ with heap := h₃, toks := tk₃ } : Shared).heap.objs.size (fun y => if y = ".0" then some (.ref I) else none) := by
      show h₄.Ns h₃.objs.size _
      rw [hC]; exact hn
    have hs' : Heap.SameBut ({ s₂ with heap := h₃, toks := tk₃ } : Shared).heap.objs.size (({ s₂ with heap := h₃, toks := tk₃ } : Shared).heap.push { cls := .type "frame", data := .dict #[] }) h₄ := by
      show Heap.SameBut h₃.objs.size (h₃.push _) h₄
      rw [hC]; exact hs
    have hl : (genEnv scope [] C₀ code builtinsNs F.env).locals = ({ s₂ with heap := h₃, toks := tk₃ } : Shared).heap.objs.size := hC.symm
    obtain ⟨g, cr, RG, back⟩ := R₃.toGen (A₁ := F.A.in1.in1.in1) (A₂ := F.A.in1.in1.in1.over (gCode elt iter x px scope gp I (genEnv scope [] C₀ code builtinsNs F.env)) []) (env' := genEnv scope [] C₀ code builtinsNs F.env) O C C.fr hl rfl hn' hs' (tk₃ + 1 + 1 + 1)
      (gs := .fresh (gStart elt iter x px scope gp I (genEnv scope [] C₀ code builtinsNs F.env))) rfl (lc' := [(".0", some (.ref I)), (x, none)])
      (fun y v hy => by
        rcases List.mem_cons.mp hy with e | hy
        · cases e; exact ⟨h0, _, if_pos rfl, rfl⟩
        · rcases List.mem_cons.mp hy with e | hy
          · cases e
          · cases hy)
      (fun q hq => by
        rcases List.mem_cons.mp hq with rfl | hq
        · exact ⟨h0, (by decide : ((".0" : Str) == ("__debug__" : Str)) = false)⟩
        · rw [List.mem_singleton.mp hq]; exact ⟨hx, hxd⟩)
      (by simp only [List.map_cons, List.map_nil, List.nodup_cons, List.mem_singleton, List.not_mem_nil, not_false_eq_true, List.nodup_nil, and_true]; exact fun e => hx0 e.symm)
    generalize hgo : ({ cls := .type "generator", data := .fields #[.int s₂.gens.size 0, .str "<genexpr>" (tk₃ + 1), .str (F.env.qual ++ "<genexpr>") (tk₃ + 1 + 1)] } : Obj) = go
    have RG2 := RG.raw go (by rw [← hgo]; rfl) (tk₃ + 1 + 1 + 1)
    have RG3 := Rep.keep (junk := []) (keep := (I, .raw o) :: (h₄.objs.size, .raw go) :: ob' (ps ++ more)) RG2 (by rw [List.append_nil]; exact List.Perm.swap ..)
    have hrm : 1 ≤ F.room := by omega
    have OG : FmOk W (F.gen F.A.in1.in1.in1 (F.A.in1.in1.in1.over (gCode elt iter x px scope gp I (genEnv scope [] C₀ code builtinsNs F.env)) []) (genEnv scope [] C₀ code builtinsNs F.env) g cr (s₂.gens.size + 1)) :=
      O.gen hkind O.hg rfl O.hh (by show F.A.depth + 0 + 1 ≤ _; omega) (by show F.A.units + 1 + 1 + 1 + 0 + _ ≤ F.A.units + 10; have : (gCode elt iter x px scope gp I (genEnv scope [] C₀ code builtinsNs F.env)).cUnits ≤ 7 := Nat.le_of_ble_eq_true rfl; omega) hrm
    let p : Gp := ⟨F.gen F.A.in1.in1.in1 (F.A.in1.in1.in1.over (gCode elt iter x px scope gp I (genEnv scope [] C₀ code builtinsNs F.env)) []) (genEnv scope [] C₀ code builtinsNs F.env) g cr (s₂.gens.size + 1), x, I, 0, h₄.objs.size, go, ob' (ps ++ more), xs, f, It, ok⟩
    have CG : CallOk p.G := ⟨by show pushEnvs [genEnv scope [] C₀ code builtinsNs F.env] (pushEnvs [] F.A.frames) = some (genEnv scope [] C₀ code builtinsNs F.env :: F.env :: F.outer); rw [C.fr]; rfl, rfl, fun y => hfree y⟩
    refine gp_join (p := p) (g := s₂.gens.size) (A := F.A) (elt := elt) (iter := iter) (px := px) (scope := scope) (pos := gp) (fun S' => ⟨OG, CG, rfl, ?_, hco, S, fun acc => hok _ _ _, fun v hv E obs => helt _ OG CG (by show F.room - 1 + 1 = _; omega) rfl I v hv E obs⟩) O.hh (by have := O.depth; show F.A.depth < 1000; omega) ⟨_, _, hgo.symm⟩ (Nat.lt_succ_self _) hz RG3 hit ?_ hy hjoin fun t' s' av m' news' R' => ?_
    · exact OG.at (by show 1 ≤ F.room - 1; omega) (by show F.A.depth + 0 + 1 ≤ F.A.depth + 0 + 1 + 1; omega) (by show F.A.units + 1 + 1 + 1 + 0 + (gStart elt iter x px scope gp I (genEnv scope [] C₀ code builtinsNs F.env)).cUnits ≤ F.A.units + 1 + 1 + 1 + 0 + (gCode elt iter x px scope gp I (genEnv scope [] C₀ code builtinsNs F.env)).cUnits + 10; have : (gStart elt iter x px scope gp I (genEnv scope [] C₀ code builtinsNs F.env)).cUnits ≤ 7 := Nat.le_of_ble_eq_true rfl; omega) rfl
    · exact Array.getElem?_push_size ..
    · obtain ⟨m'', R''⟩ := back R'
      exact ⟨_, m'', news', hQ more ht', Rep.keep (junk := [(h₄.objs.size, .raw go)]) R'' (List.perm_append_singleton _ _).symm⟩
  rw [he] at key ⊢
  exact callWith_of (P := fun _ => True) (by rfl) (fun h _ => ⟨.machine, .inr (.inl rfl), Looks.of_pure rfl⟩) (evalArgs_plain key)
end

end
/-! text U16 -/
section

section
variable {w : World} {pg : Program} {loose : List Str} {mg mb : Str → Option Value} {F : Fm} {E : Value → Shared → Prop} {lc : Lc} {ob : List (Addr × AO)}

theorem t_join (O : FmOk (W2 w pg loose mg mb) F) (C : CallOk F) (hr : 3 ≤ F.room) (hbm : BM F.base) {l : Addr} {ps : List (List Nat)} {T : Array Value} (ht : TriplesOk T.toList) {ob' : Array Value → List (Addr × AO)} (U : ∀ T', PutO 820 (.raw (tabO T)) (.raw (tabO T')) ob (ob' T'))
    (hl : (l, AO.list (tv ps)) ∈ ob) (hl' : ∀ T', (l, AO.list (tv ps)) ∈ ob' T') (hz : ps.length ≤ 1000) (hp : ∀ p ∈ ps, p.length ≤ 1000) {P : Value → AS → Prop}
    (h : ∀ more, TriplesOk (T ++ more).toList → P (.str (S (joinL 32 (ps.map quo))) 0) ⟨lc, ob' (T ++ more)⟩) : CallF (W2 w pg loose mg mb) F E ⟨lc, ob⟩ (.ref 825) [.ref l] [] P := by
  refine' c_fn2 (nb := [("split_command", .ref l)]) (ps := ["split_command"]) (others := []) O C (ho := ?ho) (hcd := ?hcd) (hb := ?hb) (hps := ?hps) (hn := ?hn) (hroom := rm1 hr rfl) (hnf := ?hnf) (hbody := ?hbody) ?_ ?_ ?_
  krn_off
  case hb =>
    exact binds_10 (f := fun a => [("split_command", a)]) (g := fun a => [("split_command", a)]) (fun a S => by kernel_rfl) (fun _ => rfl)
  intro F' E' O' C' hr' hs hc hE hL
  clear hs
  have hbm' : BM F'.base := by rw [hc.base]; exact hbm
  simp only [List.map_cons, List.map_nil, List.cons_append, List.nil_append]
  kcj_in
  refine m_str PySem.F.slot_str_join PySem.F.type_str_join ?_
  refine w_joingen O' C' (rmx hr' hr rfl) (c := 824) (P := 820) hc.code (by kernel_rfl) ht hbm' U (iv := .ref l) (xs := tv ps) (f := mapT quo) (fun E => ?_) (Iters.list hl) (fun T' p q => by simp [hl' T']) (by rfl) (by decide) (fun y => ?_) (by decide) (by decide) rfl rfl (by decide) (by decide) (fun _ => rfl) (by rw [tv_length]; omega) (fun G OG CG hrG hsG I v hv E obs => ?_) (ys := (ps.map quo).map S) ?_ ?_ fun more hm => ?_
  · kcj_in
    exact ⟨rfl, rfl⟩
  · intro h
    have hn : ([(".0", .local), ("arg", .local), ("quote", .globalImplicit)] : List (Str × NameKind)).all (fun p => p.2 != .free) = true := rfl
    have := List.all_eq_true.mp hn _ (mem_of_lookup h)
    simp at this
  · obtain ⟨p, hpm, rfl⟩ := tv_mem hv
    have GG : Globs (W2 w pg loose mg mb) G [("quote", .ref 833)] := globs_of hsG (by kernel_rfl)
    clear hsG
    kcj_in
    refine t_quote OG CG (by omega) (hp p hpm) ?_
    exact ⟨rfl, rfl⟩
  · rw [tv_map]; rfl
  · refine joinOk_of ?_
    have h1 := sum_le (ps.map quo) 5002 fun p hp' => by
      obtain ⟨q, hq', rfl⟩ := List.mem_map.mp hp'
      have := hp q hq'
      have h5 : (rp 39 q5 q).length ≤ q.length * 5 := rp_le 39 q5 (by decide) (by decide) q
      unfold quo
      split
      · simp
      · split
        · omega
        · simp only [List.length_cons, List.length_append, List.length_nil]; omega
    have h2 : (Str.ofString " ").length = 1 := by decide +kernel
    rw [h2, List.length_map]
    rw [List.length_map] at h1 ⊢
    omega
  · rw [show Str.ofString " " = S [32] from e32, join_txt]
    exact h more hm
end

end
/-! text M27 -/
section
open PySem.Builtin
open PySem (GenState)

noncomputable def gd (h : Heap) (P : Addr) : Heap := hideAll h [P]
theorem gd_get {h : Heap} {P b : Addr} {o : Obj} (e : h.get? b = some o) (n : b ≠ P) : (gd h P).get? b = some o := hideAll_get _ e (by simpa using n)
theorem gd_up {h : Heap} {P b : Addr} {o : Obj} (e : (gd h P).get? b = some o) : h.get? b = some o := of_hideAll _ e
theorem gd_none {h : Heap} {P : Addr} : (gd h P).get? P = none := hideAll_none _ (List.mem_singleton.mpr rfl)
theorem gd_ns {h : Heap} {P a : Addr} {ps : Array Value} {m : Str → Option Value} (hP : h.get? P = some (tabO ps)) (N : h.Ns a m) : (gd h P).Ns a m := by
  obtain ⟨o, es, ep, ho, hd, r⟩ := N
  refine ⟨o, es, ep, gd_get ho fun e => ?_, hd, r⟩
  rw [e, hP] at ho; cases ho; cases hd
theorem gd_in {K : Frag} {h : Heap} {P : Addr} (X : K.In h) (hP : K.lookup P = none) : K.In (gd h P) := fun a o e => gd_get (X a o e) fun q => by rw [q, hP] at e; cases e
theorem gd_top {p : Program} {loose : List Str} {mg mb : Str → Option Value} {h : Heap} {P : Addr} {ps : Array Value} (hP : h.get? P = some (tabO ps)) (T : TopRead p loose mg mb h) : TopRead p loose mg mb (gd h P) := by
  obtain ⟨mc, h1, h2⟩ := T.nolimit
  exact ⟨gd_ns hP T.g, gd_ns hP T.b, ⟨mc, gd_ns hP h1, h2⟩, T.builtins, T.free⟩
theorem gd_bm {h : Heap} {P : Addr} {ps : Array Value} (hP : h.get? P = some (tabO ps)) (B : BM h) : BM (gd h P) := by
  obtain ⟨mg, bm, ob, B⟩ := B
  refine ⟨mg, bm, ob, gd_ns hP B.ns, B.name, B.ne, gd_get B.obj fun e => ?_, B.cls, B.dict, B.data⟩
  have h1 := B.obj
  rw [e, hP] at h1
  cases h1
  exact absurd B.cls (by simp [tabO])

section
variable {W : Wd} {s₁ : Shared}
theorem c_top {P : Addr} {ps : Array Value} (X : W.K.In s₁.heap) (hPK : W.K.lookup P = none) (T : TopRead W.p W.loose W.mg W.mb s₁.heap) (hP : s₁.heap.get? P = some (tabO ps)) (hg : s₁.gens = #[])
    {f : Addr} {vs : List Value} {nb : Fl} {pn others : List Str} {name qual : Str} {params : Arguments} {body : List Stmt} {scope : Scope} {dV kV doc pm cdv ct oc : Value} {an od : Option Addr} {osl : Array (Option Value)} {Q : Value → AS → Prop} {R : Result → Shared → Prop}
    (ho : W.K.lookup f = some ⟨oc, od, .func (fnOf name qual params body scope dV kV doc pm an cdv ct), osl⟩) (hcd : codeIn W.K cdv qual = true)
    (hb : ∃ binds, (∀ S, peek W.K S (bindArgs (fnOf name qual params body scope dV kV doc pm an cdv ct) ⟨vs, []⟩) = some binds) ∧ nk binds = nb) (hps : nb.map (·.1) = pn) (hn : namesOk scope pn others = true)
    (hnf : scope.names.all (fun p => p.2 != .free) = true)
    (hbody : ∀ F' E', FmOk W F' → CallOk F' → 40 ≤ F'.room → F'.env.scope = scope → F'.base = gd s₁.heap P → PassesOwn (model W.prog W.w) F'.A F'.env E' →
      GoF W F' E' ⟨nb.map (fun p => (p.1, some p.2)) ++ others.map (fun x => (x, none)), [(P, .raw (tabO ps))]⟩ (execs body F'.env) fun fl σ' => Q (retv fl) σ')
    (hR : ∀ v s' F' σ' m' news', Q (nv v) σ' → F'.base = gd s₁.heap P → F'.os = s₁.os → Rep F' σ' s' m' news' → R (.ok (.ret v)) s')
    (hco : scope.isCoroutine = false := by rfl) (hgen : scope.isGenerator = false := by rfl) (hk : scope.kind = .function := by rfl) : codeAny (model W.prog W.w) callerA (.call (.ref f) ⟨vs, []⟩) R s₁ := by
  obtain ⟨binds, hbind, hnb⟩ := hb
  refine codeAny_call_function (fd := fnOf name qual params body scope dV kV doc pm an cdv ct) (body := body) (by decide +kernel) (X _ _ ho) rfl hco hgen rfl (codeRec_of X hcd) (kp_binds X hbind _ _ _ _ ?_)
  subst hps
  subst hnb
  simp only [namesOk, Bool.and_eq_true, decide_eq_true_eq, nk_names] at hn
  obtain ⟨⟨hn1, hn2⟩, hn3⟩ := hn
  have hn1' : ∀ x ∈ binds.map (·.1) ++ others, (scope.names.lookup x = some .local ∨ scope.names.lookup x = some .cell) ∧ (x == ("__debug__" : Str)) = false := fun x hx => by
    have := List.all_eq_true.mp hn1 x hx
    simpa only [Bool.and_eq_true, Bool.or_eq_true, beq_iff_eq, Bool.not_eq_true'] using this
  have nd1 : (binds.map (·.1)).Nodup := (List.nodup_append.mp hn2).1
  have hkind : ∀ n, ∀ x ∈ binds, scope.names.lookup x.1 = some .local ∨ (scope.names.lookup x.1 = some .cell ∧ ((cellsFrom n scope.names []).lookup x.1).isSome = true) := fun n x hx => by
    have hx' : x.1 ∈ binds.map (·.1) := List.mem_map_of_mem hx
    rcases (hn1' x.1 (List.mem_append_left _ hx')).1 with q | q
    · exact .inl q
    · exact .inr ⟨q, cellsFrom_some _ _ _ (.inl q)⟩
  refine wpAny_newFunctionEnv_cells hk (hkind _) fun env' he s' x => ?_
  subst he
  refine ⟨T.nolimit.keeps x.toInCall.keep, codeAny_func ?_⟩
  obtain ⟨h₁, tk, rfl, _⟩ := x.done
  have hk₁ := x.toInCall.keep
  obtain ⟨cells, NC, Y⟩ := Cl.news (h₀ := s₁.heap) (Nat.le_refl _) fun n c hm => ⟨x.cell n c (lookup_of_mem_nodup (cellsFrom_names scope.names 0 (s₁.heap.objs.size + 1) [] [] rfl ▸ hn3) hm), x.above n c hm⟩
  let L' := s₁.heap.objs.size
  let env' := envOfC qual scope L' f cdv
  let G : Fm := { A₀ := callerA, A := callerA.deeper env', base := gd s₁.heap P, outer := [], h₀ := gd s₁.heap P, env := env', os := s₁.os, rest := [], room := 40, gn := 0 }
  have OG : FmOk W G := ⟨gd_in X hPK, gd_top hP T, hk, rfl, rfl, rfl, by show callerA.depth + 1 + 40 ≤ 800; decide +kernel, by show callerA.units + 3 + 10 * 40 ≤ 8000; decide +kernel⟩
  have CG : CallOk G := ⟨Around.frames_deeper rfl, rfl, fun x hx => by
    have : scope.names.lookup x = some .free := hx
    have := List.all_eq_true.mp hnf _ (mem_of_lookup this)
    simp at this⟩
  have cn : ∀ p ∈ cellsFrom (L' + 1) scope.names [], ∃ o, (p.2, o) ∈ cells ∧ o.data = .cell (bindC env'.kindOf binds (fun _ => none) p.1) := CellsAre.at Y
  have hkl : ∀ x ∈ binds.map (·.1) ++ others, env'.kindOf x = some .local ∨ (env'.kindOf x = some .cell ∧ (env'.cells.lookup x).isSome = true) := fun x hx =>
    (hn1' x hx).1.imp id fun q => ⟨q, cellsFrom_some _ _ _ (.inl q)⟩
  have hPlt : P < L' := Heap.lt_size hP
  have hPc : ∀ c ∈ env'.cells.map (·.2), c ≠ P := fun c hc e => by
    have : L' + 1 ≤ c := cellsFrom_ge scope.names (L' + 1) (L' + 1) [] (Nat.le_refl _) (by simp) c hc
    rw [e] at this
    exact absurd (Nat.lt_of_lt_of_le hPlt (Nat.le_of_succ_le this)) (Nat.lt_irrefl _)
  have NG : News (gd s₁.heap P) L' h₁ (cells ++ [(P, tabO ps)]) := fun p hp => by
    rcases List.mem_append.mp hp with hp | hp
    · refine ⟨(NC p hp).1, (NC p hp).2.1, ?_⟩
      cases q : (gd s₁.heap P).get? p.1 with
      | none => rfl
      | some o => have := gd_up q; rw [(NC p hp).2.2] at this; cases this
    · rw [List.mem_singleton.mp hp]
      exact ⟨hk₁ _ _ hP, Nat.ne_of_lt hPlt, gd_none⟩
  have RG : Rep G ⟨(nk binds).map (fun p => (p.1, some p.2)) ++ others.map (fun x => (x, none)), [(P, .raw (tabO ps))]⟩ { s₁ with heap := h₁, toks := tk } ⟨bindL env'.kindOf binds fun _ => none, gd s₁.heap P⟩ (cells ++ [(P, tabO ps)]) := by
    refine ⟨⟨fun x v hx => ?_, fun p hp => ?_, ?_, fun p hp => ?_, fun p hp => ?_, (fun p hp => nomatch hp), ?_⟩, ⟨x.toInCall.ns, fun b o e => hk₁ b o (gd_up e), Nat.le_of_eq (hideAll_size _ _)⟩, NG, below_caller _, KtsTurn.refl, ⟨.of_eq hg, Nat.zero_le _⟩, rfl⟩
    · rcases List.mem_append.mp hx with hx | hx
      · obtain ⟨p, hp, e⟩ := List.mem_map.mp hx
        cases e
        obtain ⟨u, hu, e⟩ := nk_mem (x := p.1) (v := p.2) hp
        have hm : p.1 ∈ binds.map (·.1) := List.mem_map_of_mem (f := (·.1)) hu
        rcases hkl p.1 (List.mem_append_left _ hm) with q | ⟨q, q'⟩
        · exact .inl ⟨q, u, bindL_in q nd1 hu, e⟩
        · obtain ⟨c, hc⟩ := Option.isSome_iff_exists.mp q'
          obtain ⟨o, h1, h2⟩ := cn (p.1, c) (mem_of_lookup hc)
          exact .inr ⟨.inl q, c, o, u, hc, List.mem_append_left _ h1, by rw [h2]; exact congrArg _ (bindC_in (by rw [q]; simp) nd1 hu), e⟩
      · obtain ⟨p, hp, e⟩ := List.mem_map.mp hx
        cases e
    · have hm : p.1 ∈ binds.map (·.1) ++ others := by
        rcases List.mem_append.mp hp with hp | hp
        · obtain ⟨q, hq, rfl⟩ := List.mem_map.mp hp
          exact List.mem_append_left _ (nk_names binds ▸ List.mem_map_of_mem hq)
        · obtain ⟨q, hq, rfl⟩ := List.mem_map.mp hp
          exact List.mem_append_right _ hq
      exact ⟨(hkl _ hm).imp id .inl, (hn1' _ hm).2⟩
    · have : ((nk binds).map (fun p => (p.1, some p.2)) ++ others.map (fun x => (x, (none : Option Value)))).map (·.1) = binds.map (·.1) ++ others := by
        simp [nk, Function.comp_def]
      show (List.map _ _).Nodup
      rw [this]; exact hn2
    · obtain ⟨o, h1, h2⟩ := cn p hp
      exact ⟨o, _, List.mem_append_left _ h1, h2⟩
    · rw [List.mem_singleton.mp hp]
      exact List.mem_append_right _ (List.mem_singleton.mpr rfl)
    · refine List.nodup_append.mpr ⟨cellsFrom_addrs _ _ _ (by simp) (by simp), by show [P].Nodup; simp, fun c hc b hb e => ?_⟩
      have hb : b = P := List.mem_singleton.mp (show b ∈ [P] from hb)
      exact hPc c hc (e.trans hb)
  refine wpAny_mono (hbody G _ OG CG (Nat.le_refl _) rfl rfl PassesOwn.leaving _ _ _ RG) (fun fl s' ⟨σ', m', n', hQ, R'⟩ => ?_) fun _ _ z => z
  have fin : ∀ v, nv v = retv (nf fl) → R (.ok (.ret v)) s' := fun v hv => hR v s' G σ' m' n' (by rw [hv]; exact hQ) rfl rfl R'
  cases fl <;> exact fin _ rfl
end

end
/-! text M28 -/
section
open PySem.Builtin

noncomputable def BL (F : Fm) (l : Addr) (ns : List Int) : Prop := ∃ vs : List Value, F.base.IsList l vs.toArray ∧ IntsAre vs ns
section
variable {W : Wd} {F : Fm} {E : Value → Shared → Prop} {σ : AS} {lc : Lc} {ob ob' : List (Addr × AO)} {s : Shared} {m : Mp} {news : List (Addr × Obj)} {l : Addr} {ns : List Int}
theorem BL.at (h : BL F l ns) (R : Rep F σ s m news) : ∃ vs : List Value, s.heap.IsList l vs.toArray ∧ IntsAre vs ns := by
  obtain ⟨vs, h1, h2⟩ := h
  obtain ⟨o, ho, r⟩ := h1
  exact ⟨vs, ⟨o, R.fr.keep _ _ (R.bl.stays _ _ ho), r⟩, h2⟩
theorem i_listB {k : Int} {t : Tok} {x : Int} {P : Value → AS → Prop} (h : BL F l ns) (h0 : 0 ≤ k) (hx : ns[k.toNat]? = some x) (hz : ns.length ≤ 1000000) (hP : P (.int x 0) σ) : Sub W F E σ (.ref l) (.int k t) P := fun vo vi ho hi s m news R => by
  obtain rfl := nv_ref ho
  obtain ⟨u, rfl⟩ := nv_int hi
  obtain ⟨vs, hl, hI⟩ := h.at R
  obtain ⟨t', ht⟩ := hI.get k.toNat x hx
  have hlt := (List.getElem?_eq_some_iff.mp hx).1
  exact ⟨"list", _, slot_list_getitem.lookup, hl.typeIs, wpAny_getItem_list (items := vs.toArray) (x := .int x t') hl h0 (by omega) (by simpa using ht) ⟨σ, m, news, hP, R⟩⟩
theorem x_ne_nilB (O : FmOk W F) {b : Addr} {P : Bool → AS → Prop} (h : BL F l ns) (hb : (b, AO.list []) ∈ σ.obj) (hP : P (decide (ns ≠ [])) σ) : Cmp W F E σ .NotEq (.ref l) (.ref b) P := fun va vb hva hvb s m news R => by
  obtain rfl := nv_ref hva; obtain rfl := nv_ref hvb
  obtain ⟨vs, hl, hI⟩ := h.at R
  obtain ⟨us, k, g3, g4⟩ := R.listAt hb
  have hu : us.size = 0 := by have := congrArg List.length g4; simpa using this
  have hvs : vs.toArray.size = ns.length := by simp [hI.length]
  by_cases hn : ns = []
  · subst hn
    have b := SeqAt.RcNeAt.lists (A := F.A) (s := s) (l := l) (b := b) (items := vs.toArray) (items2 := us) (e := fun _ => true) hl ⟨_, g3, rfl, k, rfl⟩ (by rw [hvs, hu]; rfl) O.line fun j a b => by rw [hu] at b; exact absurd b (Nat.not_lt_zero _)
    have t : (List.range vs.toArray.size).all (fun _ => true) = true := by simp
    rw [t] at b
    exact b W.prog W.w E _ ⟨σ, m, news, ⟨_, rfl, by simpa using hP⟩, R⟩
  · have hne : (vs.toArray.size != us.size) = true := by
      rw [hvs, hu, bne_iff_ne]
      exact fun e => hn (List.length_eq_zero_iff.mp e)
    have b := SeqAt.RcNeAt.lists_lengths (A := F.A) (s := s) (l := l) (b := b) (items := vs.toArray) (items2 := us) hl ⟨_, g3, rfl, k, rfl⟩ hne O.line
    exact b W.prog W.w E _ ⟨σ, m, news, ⟨_, rfl, by simpa [hn] using hP⟩, R⟩
end

end
/-! text M32 -/
section
open PySem.Builtin

section
variable {W : Wd} {F : Fm} {E : Value → Shared → Prop} {σ : AS} {l : Addr} {ns : List Int}
theorem intsAre_nv {ws : List Value} {ms : List Int} (h : IntsAre ws ms) : ws.map nv = intV ms := by
  induction h with
  | nil => rfl
  | cons n t _ ih => simp only [List.map_cons, intV] at ih ⊢; rw [ih]; rfl
theorem v_slice3B {e lo hi st : Expr} {p pos : Pos} {x y z : Int} {P : Value → AS → Prop} (hB : BL F l ns) (hz : ns.length ≤ 1000000) (h0 : z ≠ 0)
    (h : GoV W F E σ (eval e F.env) fun o σ₁ => GoV W F E σ₁ (eval lo F.env) fun a σ₂ => GoV W F E σ₂ (eval hi F.env) fun b σ₃ => GoV W F E σ₃ (eval st F.env) fun c σ₄ =>
      o = .ref l ∧ a = .int x 0 ∧ b = .int y 0 ∧ c = .int z 0 ∧ ∀ D, P (.ref D) ⟨σ₄.loc, (D, .list (intV (pickNums ns (some x) (some y) (some z)))) :: σ₄.obj⟩)
    (ht : ∀ o r, letTemporaryGo e (.ref o) r = pure ()) : GoV W F E σ (eval (.Subscript e (.Slice (some lo) (some hi) (some st) p) pos) F.env) P := fun s m news R => by
  refine Subscript_ (goE (h s m news R) (fun o s₁ σ₁ m₁ n₁ h₁ R₁ => wpAny_Slice (wpAny_evalPart_some (goE (h₁ s₁ m₁ n₁ R₁) (fun a s₂ σ₂ m₂ n₂ h₂ R₂ => wpAny_evalPart_some (goE (h₂ s₂ m₂ n₂ R₂) (fun b s₃ σ₃ m₃ n₃ h₃ R₃ => wpAny_evalPart_some (goE (h₃ s₃ m₃ n₃ R₃) (fun c s₄ σ₄ m₄ n₄ h₄ R₄ => ?_)))))))))
  obtain ⟨ho, ha, hb, hc, hP⟩ := h₄
  obtain rfl := nv_ref ho
  obtain ⟨t, rfl⟩ := nv_int ha
  obtain ⟨u, rfl⟩ := nv_int hb
  obtain ⟨v, rfl⟩ := nv_int hc
  obtain ⟨vs, hl, hI⟩ := hB.at R₄
  refine slice_list3 R₄.fr R₄.nw hl (.int x t) (.int y u) (.int z v) (fun q => h0 (Option.some.inj q)) (fun h' F' N' => ?_) (ht := ht l) (hsz := by rw [sizeLine_eq]; simp [hI.length]; omega)
  refine ⟨_, m₄, _, hP _, R₄.add (add := [_]) (t := s₄.toks) F' N' (by simp [AO.addrs]) (fun b hb o => fresh_size R₄ (by simp only [AO.addrs, List.mem_singleton] at hb; exact hb ▸ Nat.le_succ _) o) ⟨_, 0, List.mem_cons_self .., intsAre_nv (hI.pick _ _ _)⟩⟩
end

end
/-! text Q4 -/
section

/-! what the law makes of its script -/
noncomputable def chOf (ns : List Int) : Int := ns.headD 0
noncomputable def sg3 : List Nat := [32, 39, 45]
noncomputable def sgn0 (c : Int) : Nat := sg3.getD (c.fmod 3).toNat 0
noncomputable def sgn1 (c : Int) : Nat := sg3.getD ((c.fdiv 3).fmod 3).toNat 0
noncomputable def fgAt (x : Int) : Nat := [0, 26, 62, 63].getD (x.fmod 4).toNat 0
noncomputable def figsOf (ns : List Int) (z : Int) : List Nat := (pickNums ns (some z) (some 33) (some 2)).map fgAt
noncomputable def textOf (ns : List Int) (z : Int) : List Nat := wtext (sgn0 (chOf ns)) (sgn1 (chOf ns)) (figsOf ns z)
theorem fmod3 (c : Int) : 0 ≤ c.fmod 3 ∧ c.fmod 3 < 3 := ⟨Int.fmod_nonneg_of_pos c (by decide), Int.fmod_lt_of_pos c (by decide)⟩
theorem fmod4 (c : Int) : 0 ≤ c.fmod 4 ∧ c.fmod 4 < 4 := ⟨Int.fmod_nonneg_of_pos c (by decide), Int.fmod_lt_of_pos c (by decide)⟩
theorem sg3_at {k : Int} (h : 0 ≤ k ∧ k < 3) : sg3[k.toNat]? = some (sg3.getD k.toNat 0) := by
  have : k.toNat < 3 := by omega
  generalize k.toNat = n at this
  match n, this with
  | 0, _ => rfl
  | 1, _ => rfl
  | 2, _ => rfl
theorem fgAt_in (x : Int) : fgAt x ∈ [0, 26, 62, 63] := by
  have h := fmod4 x
  unfold fgAt
  have : (x.fmod 4).toNat < 4 := by omega
  generalize (x.fmod 4).toNat = n at this
  match n, this with
  | 0, _ => decide
  | 1, _ => decide
  | 2, _ => decide
  | 3, _ => decide
theorem fgAt_at (x : Int) : ([0, 26, 62, 63] : List Nat)[(x.fmod 4).toNat]? = some (fgAt x) := by
  have h := fmod4 x
  unfold fgAt
  have : (x.fmod 4).toNat < 4 := by omega
  generalize (x.fmod 4).toNat = n at this
  match n, this with
  | 0, _ => rfl
  | 1, _ => rfl
  | 2, _ => rfl
  | 3, _ => rfl
theorem sgn_in (c : Int) : (sgn0 c = 32 ∨ sgn0 c = 39 ∨ sgn0 c = 45) ∧ (sgn1 c = 32 ∨ sgn1 c = 39 ∨ sgn1 c = 45) := by
  have key : ∀ k : Int, 0 ≤ k ∧ k < 3 → sg3.getD k.toNat 0 = 32 ∨ sg3.getD k.toNat 0 = 39 ∨ sg3.getD k.toNat 0 = 45 := fun k h => by
    have : k.toNat < 3 := by omega
    generalize k.toNat = n at this
    match n, this with
    | 0, _ => exact .inl rfl
    | 1, _ => exact .inr (.inl rfl)
    | 2, _ => exact .inr (.inr rfl)
  exact ⟨key _ (fmod3 c), key _ (fmod3 _)⟩
theorem pick_len : ∀ n : Nat, n < 64 → (sliceRange (sliceBounds (some 1) (some 33) (some 2) n).1 (sliceBounds (some 1) (some 33) (some 2) n).2.1 (sliceBounds (some 1) (some 33) (some 2) n).2.2).length ≤ 16 ∧
    (sliceRange (sliceBounds (some 2) (some 33) (some 2) n).1 (sliceBounds (some 2) (some 33) (some 2) n).2.1 (sliceBounds (some 2) (some 33) (some 2) n).2.2).length ≤ 16 := by decide +kernel
theorem figsOf_length {ns : List Int} (hn : ns.length ≤ 63) {z : Int} (hz : z = 1 ∨ z = 2) : (figsOf ns z).length ≤ 16 := by
  have h := pick_len ns.length (by omega)
  unfold figsOf pickNums
  rw [List.length_map]
  refine Nat.le_trans (List.length_filterMap_le _ _) ?_
  rcases hz with rfl | rfl
  · exact h.1
  · exact h.2
theorem figsOf_in (ns : List Int) (z : Int) : ∀ f ∈ figsOf ns z, f ∈ [0, 26, 62, 63] := fun f hf => by
  unfold figsOf at hf
  obtain ⟨x, _, rfl⟩ := List.mem_map.mp hf
  exact fgAt_in x
theorem figsOf_lt (ns : List Int) (z : Int) : ∀ f ∈ figsOf ns z, f < 64 := fun f hf => by
  have := figsOf_in ns z f hf
  simp only [List.mem_cons, List.not_mem_nil, or_false] at this
  omega
theorem wtext_length (c0 c1 : Nat) (fs : List Nat) : (wtext c0 c1 fs).length ≤ fs.length + 5 := by
  unfold wtext
  simp only [List.length_append, List.length_map, List.length_replicate]
  split <;> simp <;> omega
theorem textOf_length {ns : List Int} (hn : ns.length ≤ 63) {z : Int} (hz : z = 1 ∨ z = 2) : (textOf ns z).length ≤ 21 := Nat.le_trans (wtext_length ..) (by have := figsOf_length hn hz; omega)
noncomputable def small (c : Nat) : Prop := c = 65 ∨ c = 97 ∨ c = 32 ∨ c = 39 ∨ c = 45 ∨ c = 61
theorem wtext_small {c0 c1 : Nat} {fs : List Nat} (h0 : c0 = 32 ∨ c0 = 39 ∨ c0 = 45) (h1 : c1 = 32 ∨ c1 = 39 ∨ c1 = 45) (hf : ∀ f ∈ fs, f ∈ [0, 26, 62, 63]) : ∀ c ∈ wtext c0 c1 fs, small c := fun c hc => by
  have two : ∀ c, (c = 32 ∨ c = 39 ∨ c = 45) → small c := fun c h => .inr (.inr (h.elim .inl fun h => .inr (h.elim .inl fun h => .inr (.inl h))))
  unfold wtext at hc
  simp only [List.mem_append, List.mem_map, List.mem_replicate] at hc
  rcases hc with (⟨f, hfm, rfl⟩ | hc) | ⟨_, rfl⟩
  · have := hf f hfm
    simp only [List.mem_cons, List.not_mem_nil, or_false] at this
    rcases this with rfl | rfl | rfl | rfl
    · exact .inl rfl
    · exact .inr (.inl rfl)
    · exact two _ h0
    · exact two _ h1
  · split at hc
    · cases hc
    · rw [List.mem_singleton.mp hc]; exact .inl rfl
  · exact .inr (.inr (.inr (.inr (.inr rfl))))
theorem textOf_small (ns : List Int) (z : Int) : ∀ c ∈ textOf ns z, small c := wtext_small (sgn_in _).1 (sgn_in _).2 (figsOf_in ns z)

end
/-! text Q5 -/
section

theorem val256_digits : ∀ (m N : Nat), val256 ((List.range m).map fun k => N / 256 ^ (m - 1 - k) % 256) = N % 256 ^ m
  | 0, N => by simp [val256]; omega
  | m + 1, N => by
    have e : (List.range m).map (fun k => N / 256 ^ (m + 1 - 1 - k) % 256) = (List.range m).map fun k => (N / 256) / 256 ^ (m - 1 - k) % 256 := by
      refine List.map_congr_left fun k hk => ?_
      have hk := List.mem_range.mp hk
      rw [show m + 1 - 1 - k = 1 + (m - 1 - k) from by omega, Nat.pow_add, Nat.pow_one, Nat.div_div_eq_div_mul]
    rw [List.range_succ, List.map_append, List.map_cons, List.map_nil, val256_snoc, e, val256_digits m (N / 256), show m + 1 - 1 - m = 0 from by omega, Nat.pow_zero, Nat.div_one, Nat.pow_succ, Nat.mul_comm (256 ^ m) 256, Nat.mod_mul]
    omega
noncomputable abbrev g64 : Nat → Nat → Nat := fun a f => a * 64 + f
theorem fold64_div : ∀ (fs : List Nat) (a : Nat), (∀ f ∈ fs, f < 64) → fs.foldl g64 a / 64 ^ fs.length = a
  | [], a, _ => by simp
  | f :: r, a, h => by
    have hf := h f (by simp)
    rw [List.foldl_cons, List.length_cons, Nat.pow_succ, ← Nat.div_div_eq_div_mul, fold64_div r _ fun x hx => h x (List.mem_cons_of_mem _ hx)]
    show (a * 64 + f) / 64 = a
    omega
theorem fold64_at : ∀ (fs : List Nat) (a j : Nat) (f : Nat), (∀ f ∈ fs, f < 64) → fs[j]? = some f → fs.foldl g64 a / 64 ^ (fs.length - 1 - j) % 64 = f
  | [], _, j, _, _, h => by simp at h
  | g :: r, a, j, f, hs, h => by
    have hr : ∀ f ∈ r, f < 64 := fun x hx => hs x (List.mem_cons_of_mem _ hx)
    cases j with
    | zero =>
      simp at h
      subst h
      have hf := hs g (by simp)
      rw [List.foldl_cons, List.length_cons, show r.length + 1 - 1 - 0 = r.length from by omega, fold64_div r _ hr]
      show (a * 64 + g) % 64 = g
      omega
    | succ j =>
      have h : r[j]? = some f := by simpa using h
      have hlt := (List.getElem?_eq_some_iff.mp h).1
      have := fold64_at r (g64 a g) j f hr h
      rw [List.foldl_cons, List.length_cons, show r.length + 1 - 1 - (j + 1) = r.length - 1 - j from by omega]
      exact this
theorem val64_lt (fs : List Nat) (h : ∀ f ∈ fs, f < 64) : val64 fs < 64 ^ fs.length := by
  have := fold64_div fs 0 h
  have hp : 0 < 64 ^ fs.length := Nat.pow_pos (by decide)
  exact (Nat.div_eq_zero_iff_lt hp).mp this
theorem val64_at {fs : List Nat} {j f : Nat} (h : ∀ f ∈ fs, f < 64) (hj : fs[j]? = some f) : val64 fs / 64 ^ (fs.length - 1 - j) % 64 = f := fold64_at fs 0 j f h hj
noncomputable def turn (c0 c1 n : Nat) : Nat := if n = 43 then c0 else if n = 47 then c1 else n
theorem turn_sg (c0 c1 f : Nat) (h : f < 64) : turn c0 c1 (sg f) = faceAt c0 c1 f := by
  have key : ∀ f, f < 62 → sg f ≠ 43 ∧ sg f ≠ 47 ∧ (alpha.take 62)[f]? = some (sg f) := by decide +kernel
  by_cases h2 : f < 62
  · obtain ⟨k1, k2, k3⟩ := key f h2
    unfold turn faceAt faceL
    rw [if_neg k1, if_neg k2, List.getD_eq_getElem?_getD, List.getElem?_append_left (by simp [alpha]; omega), k3]
    rfl
  · have : f = 62 ∨ f = 63 := by omega
    rcases this with rfl | rfl
    · rfl
    · rfl
theorem oct_num : ∀ n, n < 17 → 8 * osize n = 6 * n + (8 * osize n - 6 * n) ∧
    ((n % 4 = 0 ∧ 8 * osize n / 6 = n ∧ 8 * osize n % 6 = 0) ∨ (n % 4 = 1 ∧ 8 * osize n / 6 = n ∧ 8 * osize n % 6 = 2 ∧ 8 * osize n - 6 * n = 2 ∧ (4 - (n + 1) % 4) % 4 = 2) ∨
     (n % 4 = 2 ∧ 8 * osize n / 6 = n ∧ 8 * osize n % 6 = 4 ∧ 8 * osize n - 6 * n = 4 ∧ (4 - (n + 1) % 4) % 4 = 1) ∨
     (n % 4 = 3 ∧ 8 * osize n / 6 = n + 1 ∧ 8 * osize n % 6 = 0 ∧ 8 * osize n - 6 * n = 6 ∧ 8 * osize n - 6 * (n + 1) = 0 ∧ (4 - (n + 1) % 4) % 4 = 0)) := by decide +kernel
theorem fig_num {n d m j : Nat} (hd : m = 6 * n + d) (hj : j < n) : m - 6 * (j + 1) = d + 6 * (n - 1 - j) := by
  obtain ⟨i, rfl⟩ := Nat.le.dest (Nat.succ_le_of_lt hj)
  rw [hd, Nat.mul_add, Nat.add_assoc, Nat.succ_eq_add_one, Nat.add_sub_cancel_left, Nat.add_right_comm j 1 i, Nat.add_sub_cancel, Nat.add_sub_cancel_left, Nat.add_comm]
theorem getD_some {fs : List Nat} {j : Nat} (h : j < fs.length) : fs[j]? = some (fs.getD j 0) := by rw [List.getD_eq_getElem?_getD, List.getElem?_eq_getElem h]; rfl
theorem writ_octs (c0 c1 : Nat) (fs : List Nat) (hf : ∀ f ∈ fs, f < 64) (h16 : fs.length < 17) : writ c0 c1 (octs fs) = wtext c0 c1 fs := by
  obtain ⟨n, hn⟩ : ∃ n, fs.length = n := ⟨_, rfl⟩
  obtain ⟨hd, hcase⟩ := oct_num n (hn ▸ h16)
  have hlen : (octs fs).length = osize n := by rw [octs, List.length_map, List.length_range, hn]
  have hpow : 256 ^ osize n = 64 ^ n * 2 ^ (8 * osize n - 6 * n) := by
    rw [show 256 = 2 ^ 8 from rfl, show 64 = 2 ^ 6 from rfl, ← Nat.pow_mul, ← Nat.pow_mul, ← Nat.pow_add, ← hd]
  have hV : val256 (octs fs) = val64 fs * 2 ^ (8 * osize n - 6 * n) := by
    unfold octs
    rw [hn, val256_digits, Nat.mod_eq_of_lt]
    rw [hpow]
    exact Nat.mul_lt_mul_of_pos_right (hn ▸ val64_lt fs hf) (Nat.pow_pos (by decide))
  have hfigs : (figs (8 * osize n) (val256 (octs fs)) n).map (turn c0 c1) = fs.map (faceAt c0 c1) := by
    unfold figs
    rw [List.map_map]
    apply List.ext_getElem?
    intro j
    by_cases hj : j < n
    · have hj' := getD_some (fs := fs) (j := j) (hn ▸ hj)
      rw [List.getElem?_map, List.getElem?_map, List.getElem?_range hj, hj']
      show some (turn c0 c1 (sg _)) = some _
      rw [hV, fig_num hd hj, Nat.pow_add, ← Nat.div_div_eq_div_mul, Nat.mul_div_cancel _ (Nat.pow_pos (by decide)), Nat.pow_mul, show (2 : Nat) ^ 6 = 64 from rfl, ← hn, val64_at hf hj',
        turn_sg _ _ _ (hf _ (List.mem_of_getElem? hj'))]
    · rw [List.getElem?_eq_none (by rw [List.length_map, List.length_range]; exact Nat.le_of_not_lt hj), List.getElem?_eq_none (by rw [List.length_map, hn]; exact Nat.le_of_not_lt hj)]
  show (b64o (octs fs)).map (turn c0 c1) = _
  unfold b64o wtext
  rw [hlen]
  simp only [hn, List.length_append, List.length_map]
  have h61 : turn c0 c1 61 = 61 := rfl
  have h65 : turn c0 c1 (sg 0) = 65 := rfl
  rcases hcase with ⟨h, e1, e2⟩ | ⟨h, e1, e2, e3, e6⟩ | ⟨h, e1, e2, e3, e6⟩ | ⟨h, e1, e2, e3, e5, e6⟩
  · rw [e1, e2, List.map_append, hfigs]
    simp [h]
  · have e4 : val256 (octs fs) % 4 * 16 = 0 := by rw [hV, e3, show (2 : Nat) ^ 2 = 4 from rfl, Nat.mul_mod_left]
    rw [e1, e2, List.map_append, hfigs, e4]
    simp only [if_true, List.map_cons, List.map_nil, h61, h65, h]
    simp [e6, List.replicate]
  · have e4 : val256 (octs fs) % 16 * 4 = 0 := by rw [hV, e3, show (2 : Nat) ^ 4 = 16 from rfl, Nat.mul_mod_left]
    rw [e1, e2, List.map_append, hfigs, e4]
    simp [h61, h65, h, e6, List.replicate]
  · have e4 : val256 (octs fs) / 2 ^ 0 % 64 = 0 := by rw [hV, e3, Nat.pow_zero, Nat.div_one, show (2 : Nat) ^ 6 = 64 from rfl, Nat.mul_mod_left]
    rw [e1, e2, figs_succ, e5, e4, List.map_append, List.map_append, hfigs]
    simp [h65, h, e6]

end
/-! text N29 -/
section

section
variable {W : Wd} {F : Fm} {E : Value → Shared → Prop} {σ : AS} {lc : Lc} {ob ob' : List (Addr × AO)}
section
variable (W : Wd) (F : Fm) (E : Value → Shared → Prop)
noncomputable abbrev kKw2c (f : Value) (first : List Value) (n n' : Str) (P : Value → AS → Prop) (vs : List Value) : Value → Value → AS → Prop := fun kv kv' σ₃ => CallF W F E σ₃ f (first ++ vs) [(n, kv), (n', kv')] P
noncomputable abbrev kKw2 (v v' : Expr) (f : Value) (first : List Value) (n n' : Str) (P : Value → AS → Prop) : List Value → AS → Prop := fun vs σ₁ => GoV W F E σ₁ (eval v F.env) (kGV W F E v' (kKw2c W F E f first n n' P vs))
end
theorem s_mid {st rest} {P : Flow → AS → Prop} (P₁ : AS → Prop) (h : GoF W F E σ (exec st F.env) fun f σ' => f = .next ∧ P₁ σ') (k : ∀ σ', P₁ σ' → GoF W F E σ' (execs rest F.env) P) : GoF W F E σ (execs (st :: rest) F.env) P :=
  s_cons (h.mono fun f σ' ⟨e, p⟩ => by
    show Nx W F E rest P (nf f) σ'
    rw [e]; exact k σ' p)
theorem PutO.app {a : Addr} {x x' : AO} {l l' : List (Addr × AO)} (h : PutO a x x' l l') : ∀ j : List (Addr × AO), PutO a x x' (j ++ l) (j ++ l')
  | [] => h
  | p :: j => .tail (h.app j)
theorem Go.shed {α : Type} {t : Sem α} {P : α → AS → Prop} {big keep junk : List (Addr × AO)} (hp : big.Perm (keep ++ junk)) (h : Go W F E ⟨lc, keep⟩ t P) : Go W F E ⟨lc, big⟩ t P := fun s m news R => h s m news (R.keep hp)
end
inductive Pull {α : Type} (p : α) : List α → List α → Prop
  | head {r} : Pull p (p :: r) r
  | tail {q r r'} : Pull p r r' → Pull p (q :: r) (q :: r')
inductive Shed {α : Type} : List α → List α → Prop
  | nil {r} : Shed r []
  | cons {p l r k} : Pull p l r → Shed r k → Shed l (p :: k)
theorem Pull.perm {α : Type} {p : α} {l r : List α} (h : Pull p l r) : l.Perm (p :: r) := by
  induction h with
  | head => exact .refl _
  | tail _ ih => exact (ih.cons _).trans (.swap ..)
theorem Shed.perm {α : Type} {l k : List α} (h : Shed l k) : ∃ junk, l.Perm (k ++ junk) := by
  induction h with
  | nil => exact ⟨_, .refl _⟩
  | cons hp _ ih =>
    obtain ⟨j, hj⟩ := ih
    exact ⟨j, hp.perm.trans (hj.cons _)⟩
theorem Go.shed' {W : Wd} {F : Fm} {E : Value → Shared → Prop} {lc : Lc} {α : Type} {t : Sem α} {P : α → AS → Prop} {big keep : List (Addr × AO)} (hp : Shed big keep) (h : Go W F E ⟨lc, keep⟩ t P) : Go W F E ⟨lc, big⟩ t P := by
  obtain ⟨junk, hp⟩ := hp.perm
  exact Go.shed hp h
theorem GoF.shed {W : Wd} {F : Fm} {E : Value → Shared → Prop} {lc : Lc} {t : Sem Flow} {P : Flow → AS → Prop} {big keep junk : List (Addr × AO)} (hp : big.Perm (keep ++ junk)) (h : GoF W F E ⟨lc, keep⟩ t P) : GoF W F E ⟨lc, big⟩ t P := Go.shed hp h
end
local macro_rules | `(tactic| tb_rel) => do
  let t ← tq "Pull.head|Pull.tail R|Shed.nil|Shed.cons R R"
  `(tactic| with_reducible $t:tactic)
section
end
local macro_rules | `(tactic| kcf_all) => do
  let t ← tq "w_callk1 A K _ W W W"
  `(tactic| with_reducible $t:tactic)
section

end
/-! text U17 -/
section

theorem strict_nameI {f : Str} {np pos cp : Pos} {i : Int} {k : Nat} {as : List Expr} {ks : List Keyword} {env : Env} : Strict (eval (.Call (.Name f np) (.Constant (.int i) k cp :: as) ks pos) env) := strict_name (strict_int (k := k) (pos := cp)) rfl
theorem strict_methS {o : Expr} {n : Str} {ap pos cp : Pos} {x : Str} {k : Nat} {as : List Expr} {ks : List Keyword} {env : Env} (pl : Sem Bool)
    (he : eval (.Call (.Attribute o n ap) (.Constant (.str x) k cp :: as) ks pos) env = (do
      let ov ← eval o env
      standAt ap.atName
      let (f, first) ← holding [ov] (getMethod ov n pl)
      callWith pos f first (backTo pos (starEach (.Constant (.str x) k cp :: as) env)) (backToKw pos (keywordEach ks env)))) : Strict (eval (.Call (.Attribute o n ap) (.Constant (.str x) k cp :: as) ks pos) env) :=
  strict_meth (strict_str (k := k) (pos := cp)) rfl he
/-! what the law makes of a line -/
noncomputable def evs (n : Nat) (ss : List (List Nat)) : List (List Nat) := ss.mapIdx fun j s => if j % 2 = 0 ∧ j < n then rp 32 [10] s else s
theorem evs_length (n : Nat) (ss : List (List Nat)) : (evs n ss).length = ss.length := by simp [evs]
theorem evs_zero (ss : List (List Nat)) : evs 0 ss = ss := by
  unfold evs
  apply List.ext_getElem?
  intro j
  simp
theorem evs_at {n j : Nat} {ss : List (List Nat)} {s : List Nat} (h : ss[j]? = some s) (hj : n ≤ j) : (evs n ss)[j]? = some s := by
  unfold evs
  rw [List.getElem?_mapIdx, h, Option.map_some, if_neg (by omega)]
theorem evs_set {i : Nat} {ss : List (List Nat)} {s : List Nat} (h : ss[2 * i]? = some s) : (evs (2 * i) ss).set (2 * i) (rp 32 [10] s) = evs (2 * (i + 1)) ss := by
  apply List.ext_getElem?
  intro j
  rw [List.getElem?_set]
  have hlt := (List.getElem?_eq_some_iff.mp h).1
  unfold evs
  rw [List.getElem?_mapIdx, List.getElem?_mapIdx, List.length_mapIdx]
  by_cases e : 2 * i = j
  · subst e
    rw [if_pos rfl, if_pos hlt, h, Option.map_some, if_pos (by omega)]
  · rw [if_neg e]
    cases hs : ss[j]? with
    | none => rfl
    | some x =>
      rw [Option.map_some, Option.map_some]
      have : (j % 2 = 0 ∧ j < 2 * i) ↔ (j % 2 = 0 ∧ j < 2 * (i + 1)) := by omega
      simp only [this]
noncomputable def lwords (t : List Nat) : List (List Nat) :=
  if (spl 39 t).length % 2 = 0 then [t] else ((spl 10 (joinL 39 (evs ((spl 39 t).length + 1) (spl 39 t)))).filter (· != [])).map (rp 39 [])
theorem rng2 : ∀ n : Nat, n < 40 → Builtin.Range.small 0 (n : Int) 2 = true ∧ Builtin.Range.rangeSize 0 (n : Int) 2 = (((n + 1) / 2 : Nat) : Int) := by decide +kernel
theorem tv_set (ps : List (List Nat)) (k : Nat) (p : List Nat) : (tv ps).set k (.str (S p) 0) = tv (ps.set k p) := by
  unfold tv strV
  rw [List.map_map, List.map_map, List.map_set]; rfl
theorem rp_one (c d : Nat) (t : List Nat) : (rp c [d] t).length = t.length := by
  induction t with
  | nil => rfl
  | cons x t ih =>
    unfold rp at ih ⊢
    rw [List.flatMap_cons, List.length_append, List.length_cons, ih]
    split <;> simp <;> omega

theorem rangeV2 {i n : Nat} {v : Value} (h : (rangeV 0 n 2)[i]? = some v) : i < n ∧ v = .int ((2 * i : Nat) : Int) 0 := by
  unfold rangeV at h
  rw [List.getElem?_map, Option.map_eq_some_iff] at h
  obtain ⟨k, hk, rfl⟩ := h
  obtain ⟨h1, h2⟩ := List.getElem?_eq_some_iff.mp hk
  rw [List.length_range] at h1
  rw [List.getElem_range] at h2
  subst h2
  refine ⟨h1, ?_⟩
  rw [show (0 : Int) + (i : Int) * 2 = ((2 * i : Nat) : Int) by omega]
theorem joinL_le (c : Nat) : ∀ (ps : List (List Nat)) (n : Nat), (∀ p ∈ ps, p.length ≤ n) → (joinL c ps).length ≤ ps.length * (n + 1)
  | [], _, _ => by simp [joinL]
  | [x], n, h => by have := h x (by simp); simp [joinL]; omega
  | x :: y :: r, n, h => by
    have h1 := h x (by simp)
    have h2 := joinL_le c (y :: r) n fun p hp => h p (List.mem_cons_of_mem _ hp)
    rw [joinL, List.length_append, List.length_cons]
    simp only [List.length_cons] at h2 ⊢
    have e : (r.length + 1 + 1) * (n + 1) = (r.length + 1) * (n + 1) + (n + 1) := by rw [Nat.add_mul (r.length + 1) 1 (n + 1), Nat.one_mul]
    omega
theorem evs_le {n m : Nat} {ss : List (List Nat)} (h : ∀ r ∈ ss, r.length ≤ m) : ∀ r ∈ evs n ss, r.length ≤ m := fun r hr => by
  obtain ⟨j, hj⟩ := List.mem_iff_getElem?.mp hr
  unfold evs at hj
  rw [List.getElem?_mapIdx, Option.map_eq_some_iff] at hj
  obtain ⟨s, hs, rfl⟩ := hj
  have := h s (List.mem_of_getElem? hs)
  split
  · rw [rp_one]; exact this
  · exact this

section
variable {w : World} {pg : Program} {loose : List Str} {mg mb : Str → Option Value} {F : Fm} {E : Value → Shared → Prop} {lc : Lc} {ob ob' : List (Addr × AO)}

/-! _law_read -/
theorem t_lread (O : FmOk (W2 w pg loose mg mb) F) (C : CallOk F) (hr : 13 ≤ F.room) {x : Str} {b : Bool} {ys : List Value} (hz : x.length ≤ 1000000) (hy : ys.length ≤ 1000000)
    (hT : Toks b .ws x.cps.toList ys) {P : Value → AS → Prop} (h : ∀ l, P (.ref l) ⟨lc, (l, .list (if b then [.str x 0] else ys)) :: ob⟩) :
    CallF (W2 w pg loose mg mb) F E ⟨lc, ob⟩ (.ref 855) [.str x 0] [] P := by
  refine' c_fn2 (nb := [("line", .str x 0)]) (ps := ["line"]) (others := []) O C (ho := ?ho) (hcd := ?hcd) (hb := ?hb) (hps := ?hps) (hn := ?hn) (hroom := rm1 hr rfl) (hnf := ?hnf) (hbody := ?hbody) ?_ ?_ ?_
  krn_off
  case hb =>
    exact binds_10 (f := fun a => [("line", a)]) (g := fun a => [("line", a)]) (fun a S => by kernel_rfl) (fun _ => rfl)
  intro F' E' O' C' hr' hs hc hE hL
  have G : Globs (W2 w pg loose mg mb) F' [("split", .ref 818)] := globs_of hs (by kernel_rfl)
  have kd : F'.env.kindOf "ValueError" = some .globalImplicit := by show F'.env.scope.names.lookup _ = _; rw [hs]; rfl
  clear hs O C
  simp only [List.map_cons, List.map_nil, List.cons_append, List.nil_append]
  refine s_cons (s_try O' C' hc.own (by kernel_rfl) kd ?_)
  kcj_in
  refine t_split O' C' (rmx hr' hr rfl) hz hy hT (fun hb l => ?_) fun hb e s' hx => ?_
  · kcj_in
    have := h l
    rw [hb] at this
    exact this
  · refine ⟨_, hx, fun ea => ?_⟩
    have e1 : (F'.hdl (.ref ea)).env = F'.env := rfl
    rw [← e1]
    refine s_cons (s_ret (v_list (a_cons (n_loc' (F := F'.hdl (.ref ea)) O'.hk (List.mem_cons_self ..) (a_nil ⟨Nat.le_of_ble_eq_true rfl, fun l => ?_⟩)))))
    have := h l
    rw [hb] at this
    exact this

/-! _law_words -/
theorem t_lwords (O : FmOk (W2 w pg loose mg mb) F) (C : CallOk F) (hr : 2 ≤ F.room) {t : List Nat} (hz : t.length ≤ 30) {P : Value → AS → Prop}
    (h : ∀ l, P (.ref l) ⟨lc, (l, .list (tv (lwords t))) :: ob⟩) : CallF (W2 w pg loose mg mb) F E ⟨lc, ob⟩ (.ref 848) [.str (S t) 0] [] P := by
  refine CallF.less ?_
  refine' c_fn (nb := [("line", .str (S t) 0)]) (ps := ["line"]) (others := ["strands", "k"]) O C (ho := ?ho) (hcd := ?hcd) (hb := ?hb) (hps := ?hps) (hn := ?hn) (hroom := rm1 hr rfl) (hnf := ?hnf) (hbody := ?hbody) ?_ ?_ ?_
  krn_off
  case hb =>
    exact binds_10 (f := fun a => [("line", a)]) (g := fun a => [("line", a)]) (fun a S => by kernel_rfl) (fun _ => rfl)
  intro F' E' O' C' hr' hs hE hL
  have G : Globs (W2 w pg loose mg mb) F' [("len", .builtin "len"), ("range", .type "range")] := globs_of hs (by kernel_rfl)
  clear hs O C
  simp only [List.map_cons, List.map_nil, List.cons_append, List.nil_append]
  kcj_in
  refine m_str PySem.F.slot_str_split PySem.F.type_str_split ?_
  kcj_in
  rw [e39]
  refine f_split (by rfl) (S_mil hz rfl) fun R₀ => ?_
  rw [split_tv]
  obtain ⟨hs1, hs2⟩ := spl_len 39 t
  have hn : (spl 39 t).length < 32 := by omega
  kcj_in
  refine f_len_list (xs := tv (spl 39 t)) (by kcj_m) (by rw [tv_length]; omega) ?_
  rw [tv_length]
  kcj_in
  refine o_mod (by decide) ?_
  rw [show ((spl 39 t).length : Int).fmod 2 = (((spl 39 t).length % 2 : Nat) : Int) by rw [Int.fmod_eq_emod_of_nonneg _ (by decide)]; omega]
  by_cases he : (spl 39 t).length % 2 = 0
  · have hd : ((((spl 39 t).length % 2 : Nat) : Int) == 0) = true := by rw [he]; rfl
    kcj_in
    refine ⟨Nat.le_of_ble_eq_true rfl, fun l => ?_⟩
    kcj_in
    have := h l
    unfold lwords at this
    rw [if_pos he] at this
    exact Less.of (keep := (l, .list [.str (S t) 0]) :: ob) (junk := [(R₀, .list (tv (spl 39 t)))]) ((List.perm_append_singleton _ _).symm.cons _) this
  · have hd : ((((spl 39 t).length % 2 : Nat) : Int) == 0) = false := by
      have : (spl 39 t).length % 2 = 1 := by omega
      rw [this]; rfl
    kcj_in
    have hodd : 2 * (((spl 39 t).length + 1) / 2) = (spl 39 t).length + 1 := by omega
    obtain ⟨hr1, hr2⟩ := rng2 (spl 39 t).length (by omega)
    generalize hss : spl 39 t = ss at *
    refine s_forS O' C' hE strict_nameI (rangeV 0 ((ss.length + 1) / 2) 2) (fun _ => True) (fun i σ => ∃ kv junk, σ = ⟨[("line", some (.str (S t) 0)), ("strands", some (.ref R₀)), ("k", kv)], junk ++ (R₀, .list (tv (evs (2 * i) ss))) :: ob⟩) ?_ (fun _ _ _ => trivial) ?_ ?_
    · kcj_in
      refine f_len_list (xs := tv ss) (by kcj_m) (by rw [tv_length]; omega) ?_
      rw [tv_length]
      kcj_in
      refine f_range3 (by decide) (by decide) fun r o ho => ?_
      refine ⟨Iters.range (n := (ss.length + 1) / 2) (List.mem_cons_self ..) ho hr1 hr2, none, [(r, .raw o)], ?_⟩
      rw [Nat.mul_zero, evs_zero]
      rfl
    · rintro raws Or Cr i v σ hv ⟨kv, junk, rfl⟩
      obtain ⟨hi, rfl⟩ := rangeV2 hv
      have hlt : 2 * i < ss.length := by omega
      have hsi : ss[2 * i]? = some ss[2 * i] := List.getElem?_eq_getElem hlt
      have hel := hs2 ss[2 * i] (List.getElem_mem hlt)
      generalize ss[2 * i] = sk at hsi hel
      refine asg_i (l' := [("line", some (.str (S t) 0)), ("strands", some (.ref R₀)), ("k", some (.int ((2 * i : Nat) : Int) 0))]) ?_ ?_
      · tb_rel
      refine s_consK (s_setsubK (v_replaceK (by kernel_rfl) ?_ _ (by with_unfolding_all rfl)))
      kcj_in
      refine i_list (l := R₀) (xs := tv (evs (2 * i) ss)) (x := .str (S sk) 0) (List.mem_append_right _ (List.mem_cons_self ..)) (Int.natCast_nonneg _) ?_ (by rw [tv_length, evs_length, sizeLine_eq]; omega) ?_
      · rw [Int.toNat_natCast, tv, strV, List.map_map, List.getElem?_map, evs_at hsi (Nat.le_refl _)]; rfl
      refine ⟨S sk, rfl, by rw [S_len, e10, S_len]; simp; omega, ?_⟩
      rw [e32, e10, replace_S]
      kcj_in
      refine ⟨R₀, tv (evs (2 * i) ss), ((2 * i : Nat) : Int), _, rfl, rfl, PutO.app .head junk, Int.natCast_nonneg _, by rw [tv_length, evs_length]; omega, by rw [tv_length, evs_length]; omega, ?_⟩
      rw [Int.toNat_natCast, tv_set, evs_set hsi]
      kcj_in
      exact lp_next ⟨_, junk, rfl⟩
    · rintro σ ⟨kv, junk, rfl⟩
      rw [rangeV, List.length_map, List.length_range, hodd]
      refine nx_next (GoF.shed (keep := (R₀, .list (tv (evs (ss.length + 1) ss))) :: ob) (junk := junk) List.perm_append_comm ?_)
      have hT := evs_le (n := ss.length + 1) (m := 30) fun r hr => Nat.le_trans (hs2 r hr) hz
      have hL := joinL_le 39 (evs (ss.length + 1) ss) 30 hT
      have hlw : lwords t = ((spl 10 (joinL 39 (evs (ss.length + 1) ss))).filter (· != [])).map (rp 39 []) := by
        unfold lwords; rw [hss, if_neg he]
      rw [evs_length] at hL
      have hL2 : (joinL 39 (evs (ss.length + 1) ss)).length ≤ 1000 := Nat.le_trans hL (by omega)
      refine s_cons (s_ret (v_compS O' (strict_methS _ (by with_unfolding_all rfl)) [] (tv (spl 10 (joinL 39 (evs (ss.length + 1) ss)))) (onS (· != [])) (mapT (rp 39 [])) (by kernel_rfl) (by simp) ?_))
      kcj_in
      refine m_str PySem.F.slot_str_join PySem.F.type_str_join ?_
      kcj_in
      refine f_join (ys := (evs (ss.length + 1) ss).map S) (List.mem_cons_self ..) ?_ ?_
      · have h1 := sum_le (evs (ss.length + 1) ss) 30 hT
        rw [List.length_map, evs_length, show (S [39]).length = 1 from rfl]
        rw [evs_length] at h1
        omega
      rw [join_txt]
      refine m_str PySem.F.slot_str_split PySem.F.type_str_split ?_
      kcj_in
      rw [e10]
      refine f_split (by rfl) (S_mil hL2 rfl) fun R₁ => ?_
      rw [split_tv]
      refine ⟨⟨by kernel_rfl, by simp, ⟨_, Iters.list (List.mem_cons_self ..), fun _ _ h => List.mem_cons_of_mem _ h⟩, spl_mil hL2 rfl, fun C extra cl OG v hv => ?_, fun C extra cl OG v hv _ => ?_⟩, fun D₀ => ?_⟩
      · obtain ⟨r, hrm, rfl⟩ := tv_mem hv
        refine tests_one fun E₁ obs hsub => ?_
        generalize F'.cm _ cl C extra = G at OG
        simp only [cmL, List.map_nil]
        kcj_in
        exact Less.of (keep := obs) (junk := []) (by simp) ⟨rfl, rfl⟩
      · obtain ⟨r, hrm, rfl⟩ := tv_mem hv
        have hrl := Nat.le_trans ((spl_len 10 _).2 r hrm) hL2
        intro E₁ obs hsub
        generalize F'.cm _ cl C extra = G at OG
        simp only [cmL, List.map_nil]
        refine v_replaceK (by kernel_rfl) ?_ _ (by with_unfolding_all rfl)
        kcj_in
        refine ⟨S r, rfl, by rw [S_len, e0, S_len]; simp; omega, ?_⟩
        rw [e0, replace_S]
        exact Less.of (keep := obs) (junk := []) (by simp) ⟨by simp [mapT], rfl⟩
      rw [tv_comp, ← hlw]
      exact Less.of (keep := (D₀, .list (tv (lwords t))) :: ob) (junk := [(R₁, _), (R₀, _)]) ((List.perm_append_comm (l₁ := [(R₁, _), (R₀, _)]) (l₂ := ob)).cons _) (h D₀)

/-! _law_line -/
noncomputable def ql (p : List Nat) : List Nat := if p = [] ∨ 32 ∈ p ∨ 39 ∈ p then 39 :: (rp 39 q5 p ++ [39]) else p
theorem signs_tv (p : List Nat) : signsV (S p) = tv (p.map fun c => [c]) := by simp [signsV, tv, strV, Function.comp_def]
theorem join0_S (ps : List (List Nat)) : Txt.join (S []) (ps.map S) = S ps.flatten := by
  show PySem.Builtin.Str.glued _ _ = _
  rw [PySem.StrLaws.glued_eq_join, joinZ_S]
  congr 1
  have : ∀ ps : List (List Nat), joinZ [] ps = ps.flatten := by
    intro ps
    induction ps with
    | nil => rfl
    | cons x r ih =>
      cases r with
      | nil => simp [joinZ]
      | cons y r => rw [joinZ, ih, List.nil_append, List.flatten_cons (l := x)]
  rw [this]
theorem flat_rp (c : Nat) (z p : List Nat) : ((p.map fun x => [x]).map fun x => if x = [c] then z else x).flatten = rp c z p := by
  induction p with
  | nil => rfl
  | cons x p ih =>
    unfold rp at ih ⊢
    rw [List.map_cons, List.map_cons, List.flatten_cons, List.flatMap_cons, ih]
    simp
theorem ql_le {p : List Nat} (h : p.length ≤ 1000) : (ql p).length ≤ 5002 := by
  have h5 : (rp 39 q5 p).length ≤ p.length * 5 := rp_le 39 q5 (by decide) (by decide) p
  unfold ql
  split
  · simp only [List.length_cons, List.length_append, List.length_nil]; omega
  · omega
end

end
/-! text U18 -/
section

theorem sgn_eq (c : Nat) : (S [c] == S [39]) = decide (c = 39) := by
  by_cases h : c = 39
  · subst h; rfl
  · rw [decide_eq_false h, beq_eq_false_iff_ne]
    exact fun e => h (List.cons.inj (S_inj e)).1
theorem tv_snoc (ps : List (List Nat)) (p : List Nat) : tv (ps ++ [p]) = tv ps ++ [.str (S p) 0] := by simp [tv, strV]
theorem q5_sum (p : List Nat) : ∀ q ∈ (p.map fun x => [x]).map (fun x => if x = [39] then q5 else x), q.length ≤ 5 := fun q hq => by
  obtain ⟨x, hx, rfl⟩ := List.mem_map.mp hq
  obtain ⟨c, _, rfl⟩ := List.mem_map.mp hx
  split <;> simp
section
variable {w : World} {pg : Program} {loose : List Str} {mg mb : Str → Option Value} {F : Fm} {E : Value → Shared → Prop} {lc : Lc} {ob ob' : List (Addr × AO)}

theorem t_lline (O : FmOk (W2 w pg loose mg mb) F) (C : CallOk F) (hr : 2 ≤ F.room) {l : Addr} {ps : List (List Nat)} (hl : (l, AO.list (tv ps)) ∈ ob) (hz : ps.length ≤ 1000) (hp : ∀ p ∈ ps, p.length ≤ 1000) {P : Value → AS → Prop}
    (h : P (.str (S (joinL 32 (ps.map ql))) 0) ⟨lc, ob⟩) : CallF (W2 w pg loose mg mb) F E ⟨lc, ob⟩ (.ref 860) [.ref l] [] P := by
  refine CallF.less ?_
  refine' c_fn (nb := [("words", .ref l)]) (ps := ["words"]) (others := ["written", "word", "inner"]) O C (ho := ?ho) (hcd := ?hcd) (hb := ?hb) (hps := ?hps) (hn := ?hn) (hroom := rm1 hr rfl) (hnf := ?hnf) (hbody := ?hbody) ?_ ?_ ?_
  krn_off
  case hb =>
    exact binds_10 (f := fun a => [("words", a)]) (g := fun a => [("words", a)]) (fun a S => by kernel_rfl) (fun _ => rfl)
  intro F' E' O' C' hr' hs hE hL
  have G : Globs (W2 w pg loose mg mb) F' [] := fun p hp => nomatch hp
  have kd : F'.env.kindOf "inner" = some .local := by show F'.env.scope.names.lookup _ = _; rw [hs]; rfl
  clear hs O C
  simp only [List.map_cons, List.map_nil, List.cons_append, List.nil_append]
  kcj_in
  refine ⟨Nat.zero_le _, fun z => ?_⟩
  kcj_in
  refine s_for O' C' hE (tv ps) (fun o => (l, AO.list (tv ps)) ∈ o) (fun k σ => ∃ wv iv, σ = ⟨[("words", some (.ref l)), ("written", some (.ref z)), ("word", wv), ("inner", iv)], (z, .list (tv ((ps.take k).map ql))) :: ob⟩) ?_ (fun i σ ⟨_, _, e⟩ => by subst e; exact List.mem_cons_of_mem _ hl) ?_ ?_
  · kcj_in
    exact ⟨Iters.list (List.mem_cons_of_mem _ hl), none, none, rfl⟩
  · rintro raws Or Cr k v σ hv ⟨wv, iv, rfl⟩
    obtain ⟨p, hk, rfl⟩ := tv_at hv
    have hpl := hp p (List.mem_of_getElem? hk)
    have htk : (ps.take (k + 1)).map ql = (ps.take k).map ql ++ [ql p] := by rw [List.take_add_one, hk]; simp
    have hlen : ((ps.take k).map ql).length ≤ 1000 := by rw [List.length_map, List.length_take]; omega
    refine asg_i (l' := [("words", some (.ref l)), ("written", some (.ref z)), ("word", some (.str (S p) 0)), ("inner", iv)]) ?_ ?_
    · tb_rel
    refine GoF.less ?_
    refine s_cons (s_if (Go.mono (P := fun c σ' => c = (decide (p = []) || (decide (32 ∈ p) || decide (39 ∈ p))) ∧ σ' = ⟨[("words", some (.ref l)), ("written", some (.ref z)), ("word", some (.str (S p) 0)), ("inner", iv)], (z, .list (tv ((ps.take k).map ql))) :: ob⟩) ?_ ?_))
    · kcj_in
      rw [e0, eqNil, e39, e32]
      have hin1 : decide (32 ∈ (S p).cps.toList) = decide (32 ∈ p) := by simp
      have hin2 : decide (39 ∈ (S p).cps.toList) = decide (39 ∈ p) := by simp
      refine sel_by (fun h1 => ?_) (fun h1 => ?_)
      · rw [h1]; exact ⟨rfl, rfl⟩
      · kcj_in
        rw [hin1]
        refine sel_by (fun h2 => ?_) (fun h2 => ?_)
        · rw [h1, h2]; exact ⟨rfl, rfl⟩
        · kcj_in
          rw [hin2]
          refine sel_by (fun h3 => ?_) (fun h3 => ?_)
          · rw [h1, h2, h3]; exact ⟨rfl, rfl⟩
          · kcj_in
            rw [h1, h2, h3]; exact ⟨rfl, rfl⟩
    rintro c σ' ⟨rfl, rfl⟩
    have hcase : (decide (p = []) || (decide (32 ∈ p) || decide (39 ∈ p))) = true ↔ (p = [] ∨ 32 ∈ p ∨ 39 ∈ p) := by simp
    have hqlen : (rp 39 q5 p).length ≤ p.length * 5 := rp_le 39 q5 (by decide) (by decide) p
    refine sel_by (fun hc => ?_) (fun hc => ?_)
    · have hql : ql p = 39 :: (rp 39 q5 p ++ [39]) := if_pos (hcase.mp hc)
      refine s_cons (s_comp Or Cr [] (tv (p.map fun c => [c])) (fun _ => true) (mapT fun x => if x = [39] then q5 else x) (sw_comp Or.hk kd (by kernel_rfl)) (by kernel_rfl) (by simp) ?_)
      kcj_in
      refine ⟨⟨by kernel_rfl, by simp, ⟨_, signs_tv p ▸ Iters.str, fun _ _ h => h⟩, by rw [tv_length, List.length_map]; omega, fun C extra cl OG v hv => tests_none, fun C extra cl OG v hv _ => ?_⟩, fun D => ?_⟩
      · obtain ⟨q, hq, rfl⟩ := tv_mem hv
        obtain ⟨c, hc, rfl⟩ := List.mem_map.mp hq
        intro E₁ obs hsub
        generalize (F'.wr raws).cm _ cl C extra = G at OG
        simp only [cmL, List.map_nil]
        kcj_in
        rw [e39, e39q, sgn_eq]
        by_cases h39 : c = 39
        · refine sel_t (decide_eq_true h39) ?_
          kcj_in
          exact Less.of (keep := obs) (junk := []) (by simp) ⟨by simp [mapT, h39], rfl⟩
        · refine sel_f (decide_eq_false h39) ?_
          kcj_in
          exact Less.of (keep := obs) (junk := []) (by simp) ⟨by simp [mapT, h39], rfl⟩
      rw [filter_true, tv_map]
      kcj_in
      refine m_str PySem.F.slot_str_join PySem.F.type_str_join ?_
      kcj_in
      refine f_join (ys := ((p.map fun x => [x]).map fun x => if x = [39] then q5 else x).map S) (List.mem_cons_self ..) ?_ ?_
      · have h1 := sum_le _ 5 (q5_sum p)
        rw [e_len0, Nat.mul_zero, Nat.add_zero]
        rw [List.length_map, List.length_map] at h1
        omega
      rw [e0, join0_S, flat_rp, e39]
      refine o_add_str (by rw [S_len, S_len, sizeLine_eq]; simp; omega) ?_
      rw [S_add]
      kcj_in
      refine o_add_str (by rw [S_len, S_len, sizeLine_eq]; simp; omega) ?_
      rw [S_add, show [39] ++ rp 39 q5 p ++ [39] = ql p from hql.symm]
      kcj_in
      refine m_list (xs := tv ((ps.take k).map ql)) (by kcj_m) slot_list_append (by rfl) ?_
      kcj_in
      refine f_append (v := .str (S (ql p)) 0) (by tb_rel) (by rw [tv_length]; omega) ?_
      kcj_in
      refine Less.of (keep := (z, .list (tv ((ps.take k).map ql) ++ [.str (S (ql p)) 0])) :: ob) (junk := [(D, _)]) (List.perm_append_comm (l₁ := [(D, _)])) (lp_next ⟨some (.str (S (ql p)) 0), some (.ref D), ?_⟩)
      rw [htk, tv_snoc]
    · have hql : ql p = p := if_neg fun e => by rw [hcase.mpr e] at hc; cases hc
      kcj_in
      refine m_list (xs := tv ((ps.take k).map ql)) (by kcj_m) slot_list_append (by rfl) ?_
      kcj_in
      refine f_append (v := .str (S p) 0) (by tb_rel) (by rw [tv_length]; omega) ?_
      kcj_in
      refine Less.of (keep := (z, .list (tv ((ps.take k).map ql) ++ [.str (S p) 0])) :: ob) (junk := []) (by simp) (lp_next ⟨some (.str (S p) 0), iv, ?_⟩)
      rw [htk, hql, tv_snoc]
  · rintro σ ⟨wv, iv, rfl⟩
    rw [tv_length, List.take_length]
    kcj_in
    refine m_str PySem.F.slot_str_join PySem.F.type_str_join ?_
    kcj_in
    refine f_join (ys := (ps.map ql).map S) (List.mem_cons_self ..) ?_ ?_
    · have h1 := sum_le (ps.map ql) 5002 fun q hq => by
        obtain ⟨r, hr, rfl⟩ := List.mem_map.mp hq
        exact ql_le (hp r hr)
      rw [List.length_map] at h1 ⊢
      rw [List.length_map, show (Str.ofString " ").length = 1 by kernel_rfl]
      omega
    rw [e32, join_txt]
    exact Less.of (keep := ob) (junk := [(z, _)]) (List.perm_append_comm (l₁ := [(z, _)])) h
end

end
/-! text Q6 -/
section

/-! how a line is read, in plain Lean -/
inductive Rs where
  | o | w (tok : List Nat) | s (d : Nat) (tok : List Nat)
noncomputable def rd : Rs → List Nat → List (List Nat) × Bool
  | .o, [] => ([], false)
  | .w tok, [] => ([tok], false)
  | .s _ _, [] => ([], true)
  | .o, c :: r => if c = 32 then rd .o r else if c = 39 ∨ c = 34 then rd (.s c []) r else rd (.w [c]) r
  | .w tok, c :: r => if c = 32 then (tok :: (rd .o r).1, (rd .o r).2) else if c = 39 ∨ c = 34 then rd (.s c tok) r else rd (.w (tok ++ [c])) r
  | .s d tok, c :: r => if c = d then rd (.w tok) r else rd (.s d (tok ++ [c])) r
noncomputable def okc (c : Nat) : Prop := c = 65 ∨ c = 97 ∨ c = 45 ∨ c = 61
noncomputable def big (c : Nat) : Prop := okc c ∨ c = 32 ∨ c = 39 ∨ c = 34
theorem okc_facts {c : Nat} (h : okc c) : inS c sWs = false ∧ isNl c = false ∧ inS c sEs = false ∧ inS c sQu = false := by
  rcases h with rfl | rfl | rfl | rfl <;> decide +kernel
theorem okc_ne {c : Nat} (h : okc c) : c ≠ 32 ∧ ¬ (c = 39 ∨ c = 34) := by
  rcases h with rfl | rfl | rfl | rfl <;> decide
theorem quo_facts {c : Nat} (h : c = 39 ∨ c = 34) : inS c sWs = false ∧ isNl c = false ∧ inS c sEs = false ∧ inS c sQu = true ∧ inS c wcs = false ∧ (one c == nStr " ") = false := by
  rcases h with rfl | rfl <;> decide +kernel
theorem big_in {c : Nat} (h : big c) : isNl c = false ∧ inS c sEs = false := by
  rcases h with h | rfl | h | h
  · exact ⟨(okc_facts h).2.1, (okc_facts h).2.2.1⟩
  · decide +kernel
  · exact ⟨(quo_facts (.inl h)).2.1, (quo_facts (.inl h)).2.2.1⟩
  · exact ⟨(quo_facts (.inr h)).2.1, (quo_facts (.inr h)).2.2.1⟩
theorem one_ne {c d : Nat} (h : c ≠ d) : (one c == one d) = false := by
  rw [beq_eq_false_iff_ne]
  exact fun e => h (List.cons.inj (S_inj (a := [c]) (b := [d]) e)).1
theorem S_pos {tok : List Nat} (h : tok ≠ []) : (((S tok).length : Int) != 0) = true := by
  rw [S_len, bne_iff_ne]
  have := List.length_pos_iff.mpr h
  omega
theorem S_eof (q : Bool) (tok : List Nat) (h : tok = [] → q = true) : isEof q (S tok) = false := by
  show (!q && S tok == nStr "") = false
  by_cases ht : tok = []
  · rw [h ht]; rfl
  · rw [show (S tok == nStr "") = false by
      rw [show nStr "" = S [] from e0, beq_eq_false_iff_ne]
      exact fun e => ht (S_inj e), Bool.and_false]
theorem S_nil : isEof false (S []) = true := by
  show (!false && S [] == nStr "") = true
  rw [show nStr "" = S [] from e0, beq_self_eq_true]; rfl
theorem ended : Toks false .none [] [] := .stop (N := 1) .ended rfl (by
  rw [show ("" : Str) = S [] from e0]; exact S_nil)
noncomputable def Cont (st : St) (tok : List Nat) (q : Bool) (t : List Nat) (ws : List (List Nat)) (b : Bool) : Prop :=
  (∃ N s' w q' r' zs, ws = w :: zs ∧ Tk N st (S tok) q t s' (S w) q' r' ∧ s'.isBad = false ∧ isEof q' (S w) = false ∧ Toks b s' r' (tv zs)) ∨
  (ws = [] ∧ b = true ∧ ∃ N t' q' r', Tk N st (S tok) q t .bad t' q' r')
theorem Cont.step {st st₂ : St} {tok tok₂ : List Nat} {q q₂ : Bool} {t t₂ : List Nat} {ws : List (List Nat)} {b : Bool} (h : Cont st tok q t ws b)
    (k : ∀ N s' t' q' r', Tk N st (S tok) q t s' t' q' r' → Tk (N + 1) st₂ (S tok₂) q₂ t₂ s' t' q' r') : Cont st₂ tok₂ q₂ t₂ ws b := by
  rcases h with ⟨N, s', w, q', r', zs, h1, h2, h3⟩ | ⟨h1, h2, N, t', q', r', h3⟩
  · exact .inl ⟨N + 1, s', w, q', r', zs, h1, k _ _ _ _ _ h2, h3⟩
  · exact .inr ⟨h1, h2, N + 1, t', q', r', k _ _ _ _ _ h3⟩
theorem Cont.toks {t : List Nat} {ws : List (List Nat)} {b : Bool} (h : Cont .ws [] false t ws b) : Toks b .ws t (tv ws) := by
  have e : ("" : Str) = S [] := e0
  rcases h with ⟨N, s', w, q', r', zs, rfl, h2, h3, h4, h5⟩ | ⟨rfl, rfl, N, t', q', r', h3⟩
  · exact .more (e ▸ h2) h3 h4 h5
  · exact .bad (e ▸ h3)
theorem Toks.skip {b : Bool} {r r₂ : List Nat} {ys : List Value} (h : Toks b .ws r ys) (k : ∀ N st' tok q r', Tk N .ws "" false r st' tok q r' → Tk (N + 1) .ws "" false r₂ st' tok q r') : Toks b .ws r₂ ys := by
  cases h with
  | stop h hb e => exact .stop (k _ _ _ _ _ h) hb e
  | bad h => exact .bad (k _ _ _ _ _ h)
  | more h hb e h' => exact .more (k _ _ _ _ _ h) hb e h'
theorem S_one (tok : List Nat) (c : Nat) : S tok ++ one c = S (tok ++ [c]) := S_add tok [c]
theorem rd_toks : ∀ t : List Nat, (∀ c ∈ t, big c) →
    Toks (rd .o t).2 .ws t (tv (rd .o t).1) ∧ (∀ tok q, (tok = [] → q = true) → Cont .a tok q t (rd (.w tok) t).1 (rd (.w tok) t).2) ∧ ∀ d tok q, (d = 39 ∨ d = 34) → Cont (.q d) tok q t (rd (.s d tok) t).1 (rd (.s d tok) t).2
  | [], _ => ⟨.stop (N := 1) .ws_eof rfl (by rw [show ("" : Str) = S [] from e0]; exact S_nil), fun tok q h => .inl ⟨1, .none, tok, q, [], [], rfl, .a_eof, rfl, S_eof q tok h, ended⟩,
      fun d tok q hd => .inr ⟨rfl, rfl, 1, _, _, _, .q_eof (quo_facts hd).2.2.2.2.2 (quo_facts hd).2.2.2.1⟩⟩
  | c :: r, hb => by
    obtain ⟨i1, i2, i3⟩ := rd_toks r fun x hx => hb x (List.mem_cons_of_mem _ hx)
    have hc := hb c (List.mem_cons_self ..)
    have b1 : inS 32 sWs = true := by decide +kernel
    have b2 : isNl 32 = false := by decide +kernel
    refine ⟨?_, fun tok q hq => ?_, fun d tok q hd => ?_⟩
    · unfold rd
      by_cases h32 : c = 32
      · subst h32
        rw [if_pos rfl]
        exact i1.skip fun N st' tok q r' h => .ws_blank b1 b2 h
      rw [if_neg h32]
      by_cases hq : c = 39 ∨ c = 34
      · rw [if_pos hq]
        obtain ⟨f1, f2, f3, f4, f5, _⟩ := quo_facts hq
        exact ((i3 c [] false hq).step (st₂ := .ws) (tok₂ := []) (q₂ := false) fun N s' t' q' r' h => .ws_quote f1 f2 f3 f5 f4 h).toks
      · rw [if_neg hq]
        have ho : okc c := hc.resolve_right fun h => h.elim h32 hq
        obtain ⟨f1, f2, f3, f4⟩ := okc_facts ho
        refine ((i2 [c] false (fun e => nomatch e)).step (st₂ := .ws) (tok₂ := []) (q₂ := false) fun N s' t' q' r' h => ?_).toks
        cases hw : inS c wcs
        · exact .ws_other f1 f2 f3 hw f4 h
        · exact .ws_word f1 f2 f3 hw h
    · unfold rd
      by_cases h32 : c = 32
      · subst h32
        rw [if_pos rfl]
        refine .inl ⟨1, .ws, tok, q, r, _, rfl, ?_, rfl, S_eof q tok hq, i1⟩
        by_cases ht : tok = []
        · subst ht
          rw [hq rfl]
          exact .a_blank_q b1 b2
        · exact .a_blank b1 b2 (S_pos ht)
      rw [if_neg h32]
      by_cases hqq : c = 39 ∨ c = 34
      · rw [if_pos hqq]
        obtain ⟨f1, f2, f3, f4, f5, _⟩ := quo_facts hqq
        exact (i3 c tok q hqq).step fun N s' t' q' r' h => .a_quote f1 f2 f4 h
      · rw [if_neg hqq]
        have ho : okc c := hc.resolve_right fun h => h.elim h32 hqq
        obtain ⟨f1, f2, f3, f4⟩ := okc_facts ho
        exact (i2 (tok ++ [c]) q (fun e => absurd e (by simp))).step fun N s' t' q' r' h => .a_char f1 f2 f4 f3 (by rw [S_one]; exact h)
    · unfold rd
      obtain ⟨_, _, _, f4, _, f6⟩ := quo_facts hd
      obtain ⟨n1, n2⟩ := big_in hc
      by_cases hcd : c = d
      · subst hcd
        rw [if_pos rfl]
        exact (i2 tok true (fun _ => rfl)).step fun N s' t' q' r' h => .q_close f6 f4 n1 (beq_self_eq_true _) h
      · rw [if_neg hcd]
        exact (i3 d (tok ++ [c]) true hd).step fun N s' t' q' r' h => .q_char f6 f4 n1 (one_ne hcd) n2 (by rw [S_one]; exact h)
theorem rd_len : ∀ (t : List Nat) (st : Rs), (rd st t).1.length ≤ t.length + 1
  | [], .o => by simp [rd]
  | [], .w tok => by simp [rd]
  | [], .s d tok => by simp [rd]
  | c :: r, .o => by
    have h := rd_len r
    unfold rd
    split
    · exact Nat.le_succ_of_le (h _)
    · split
      · exact Nat.le_succ_of_le (h _)
      · exact Nat.le_succ_of_le (h _)
  | c :: r, .w tok => by
    have h := rd_len r
    unfold rd
    split
    · exact Nat.succ_le_succ (h _)
    · split
      · exact Nat.le_succ_of_le (h _)
      · exact Nat.le_succ_of_le (h _)
  | c :: r, .s d tok => by
    have h := rd_len r
    unfold rd
    split
    · exact Nat.le_succ_of_le (h _)
    · exact Nat.le_succ_of_le (h _)

end
/-! text Q7 -/
section

/-! the law's words of a line are those that are read -/
noncomputable def tr : Bool → List Nat → List Nat
  | _, [] => []
  | q, c :: r => if c = 39 then 39 :: tr (!q) r else (if c = 32 ∧ q = false then 10 else c) :: tr q r
noncomputable def fin : Bool → List Nat → Bool
  | q, [] => q
  | q, c :: r => if c = 39 then fin (!q) r else fin q r
noncomputable def evq : Bool → List (List Nat) → List (List Nat)
  | _, [] => []
  | false, s :: r => rp 32 [10] s :: evq true r
  | true, s :: r => s :: evq false r
theorem evs_evq (n : Nat) : ∀ (ss : List (List Nat)) (k : Nat), k + ss.length ≤ n → ss.mapIdx (fun j s => if (j + k) % 2 = 0 ∧ j + k < n then rp 32 [10] s else s) = evq (decide (k % 2 = 1)) ss
  | [], _, _ => by simp [evq]
  | s :: r, k, h => by
    rw [List.length_cons] at h
    have ih := evs_evq n r (k + 1) (by omega)
    have e : (fun (i : Nat) (s : List Nat) => if (i + 1 + k) % 2 = 0 ∧ i + 1 + k < n then rp 32 [10] s else s) = fun i s => if (i + (k + 1)) % 2 = 0 ∧ i + (k + 1) < n then rp 32 [10] s else s := by
      funext i s
      rw [show i + 1 + k = i + (k + 1) by omega]
    rw [List.mapIdx_cons, e, ih, Nat.zero_add]
    by_cases hk : k % 2 = 1
    · rw [decide_eq_true hk, decide_eq_false (show ¬ (k + 1) % 2 = 1 by omega), if_neg (by omega)]; rfl
    · rw [decide_eq_false hk, decide_eq_true (show (k + 1) % 2 = 1 by omega), if_pos (by omega)]; rfl
theorem evs_all (ss : List (List Nat)) : evs (ss.length + 1) ss = evq false ss := evs_evq (ss.length + 1) ss 0 (by omega)
theorem evq_cons (q : Bool) (s : List Nat) (r : List (List Nat)) : ∃ s' , evq q (s :: r) = s' :: evq (!q) r := by
  cases q
  · exact ⟨_, rfl⟩
  · exact ⟨_, rfl⟩
theorem joinL_hd (c x : Nat) (h : List Nat) (q : List (List Nat)) : joinL c ((x :: h) :: q) = x :: joinL c (h :: q) := by
  cases q with
  | nil => rfl
  | cons a q => rfl
theorem tr_spl : ∀ (t : List Nat) (q : Bool), joinL 39 (evq q (spl 39 t)) = tr q t
  | [], q => by cases q <;> rfl
  | c :: r, q => by
    obtain ⟨h, z, e⟩ := spl_ne 39 r
    have ih := fun q => tr_spl r q
    rw [e] at ih
    unfold tr
    by_cases hc : c = 39
    · subst hc
      rw [if_pos rfl, spl, if_pos rfl, e, ← ih (!q)]
      obtain ⟨s', es⟩ := evq_cons (!q) h z
      cases q
      · show joinL 39 (rp 32 [10] [] :: evq true (h :: z)) = _
        rw [show (!false) = true from rfl] at es ⊢
        rw [es]; rfl
      · show joinL 39 ([] :: evq false (h :: z)) = _
        rw [show (!true) = false from rfl] at es ⊢
        rw [es]; rfl
    · rw [if_neg hc, spl, if_neg hc, e]
      cases q
      · rw [← ih false]
        show joinL 39 (rp 32 [10] (c :: h) :: evq true z) = _ :: joinL 39 (rp 32 [10] h :: evq true z)
        have : rp 32 [10] (c :: h) = (if c = 32 ∧ false = false then 10 else c) :: rp 32 [10] h := by
          unfold rp
          rw [List.flatMap_cons]
          by_cases h32 : c = 32
          · rw [if_pos h32, if_pos ⟨h32, rfl⟩]; rfl
          · rw [if_neg h32, if_neg fun e => h32 e.1]; rfl
        rw [this, joinL_hd]
      · rw [← ih true]
        show joinL 39 ((c :: h) :: evq false z) = _ :: joinL 39 (h :: evq false z)
        rw [joinL_hd, if_neg fun e => Bool.noConfusion e.2]
theorem fin_spl : ∀ (t : List Nat) (q : Bool), fin q t = (decide ((spl 39 t).length % 2 = 0) != q)
  | [], q => by cases q <;> rfl
  | c :: r, q => by
    obtain ⟨h, z, e⟩ := spl_ne 39 r
    have ih := fun q => fin_spl r q
    unfold fin
    by_cases hc : c = 39
    · rw [if_pos hc, spl, if_pos hc, ih]
      have : (decide (([] :: spl 39 r).length % 2 = 0)) = !decide ((spl 39 r).length % 2 = 0) := by
        rw [List.length_cons]
        by_cases hp : (spl 39 r).length % 2 = 0
        · rw [decide_eq_true hp, decide_eq_false (by omega)]; rfl
        · rw [decide_eq_false hp, decide_eq_true (by omega)]; rfl
      rw [this]
      cases q <;> cases decide ((spl 39 r).length % 2 = 0) <;> rfl
    · rw [if_neg hc, spl, if_neg hc, ih, e]
      rfl
noncomputable def Wf (x : List Nat) : List (List Nat) := ((spl 10 x).filter (· != [])).map (rp 39 [])
theorem Wf_cut {pre x : List Nat} (h : 10 ∉ pre) : Wf (pre ++ 10 :: x) = (if pre = [] then [] else [rp 39 [] pre]) ++ Wf x := by
  obtain ⟨a, q, e1, e2⟩ := spl_app 10 pre (10 :: x) h
  rw [spl, if_pos rfl] at e1
  cases e1
  unfold Wf
  rw [e2, List.append_nil]
  by_cases hp : pre = []
  · subst hp; rfl
  · rw [if_neg hp, List.filter_cons_of_pos (by simpa using hp)]; rfl
theorem Wf_end {pre : List Nat} (h : 10 ∉ pre) (hp : pre ≠ []) : Wf pre = [rp 39 [] pre] := by
  obtain ⟨a, q, e1, e2⟩ := spl_app 10 pre [] h
  cases e1
  rw [List.append_nil] at e2
  unfold Wf
  rw [e2, List.filter_cons_of_pos (by simpa using hp)]; rfl
theorem rp_snoc (c : Nat) (z pre : List Nat) (x : Nat) : rp c z (pre ++ [x]) = rp c z pre ++ (if x = c then z else [x]) := by simp [rp]
theorem app_cons {α : Type} (a : List α) (x : α) (b : List α) : a ++ x :: b = (a ++ [x]) ++ b := by simp
theorem small_c {c : Nat} (h : small c) : c ≠ 10 ∧ c ≠ 34 := by rcases h with rfl | rfl | rfl | rfl | rfl | rfl <;> decide
theorem rd_words : ∀ t : List Nat, (∀ c ∈ t, small c) →
    (rd .o t = (if fin false t then (rd .o t).1 else Wf (tr false t), fin false t)) ∧
    (∀ pre, 10 ∉ pre → pre ≠ [] → rd (.w (rp 39 [] pre)) t = (if fin false t then (rd (.w (rp 39 [] pre)) t).1 else Wf (pre ++ tr false t), fin false t)) ∧
    ∀ pre, 10 ∉ pre → pre ≠ [] → rd (.s 39 (rp 39 [] pre)) t = (if fin true t then (rd (.s 39 (rp 39 [] pre)) t).1 else Wf (pre ++ tr true t), fin true t)
  | [], _ => by
    refine ⟨rfl, fun pre h10 hp => ?_, fun pre h10 hp => rfl⟩
    show ([rp 39 [] pre], false) = (Wf (pre ++ []), false)
    rw [List.append_nil, Wf_end h10 hp]
  | c :: r, hs => by
    obtain ⟨i1, i2, i3⟩ := rd_words r fun x hx => hs x (List.mem_cons_of_mem _ hx)
    obtain ⟨n10, n34⟩ := small_c (hs c (List.mem_cons_self ..))
    have snoc10 : ∀ {pre : List Nat} {x : Nat}, 10 ∉ pre → x ≠ 10 → 10 ∉ pre ++ [x] := fun {pre x} h hx hm => by
      rcases List.mem_append.mp hm with hm | hm
      · exact h hm
      · exact hx (List.mem_singleton.mp hm).symm
    have lift : ∀ {a b : List (List Nat) × Bool} {f : Bool} {w w' : List (List Nat)}, b = (if f then b.1 else w, f) → a = b → w = w' → a = (if f then a.1 else w', f) := fun {a b f w w'} h e e' => by rw [e, ← e']; exact h
    refine ⟨?_, fun pre h10 hp => ?_, fun pre h10 hp => ?_⟩
    · by_cases h39 : c = 39
      · subst h39
        have e1 : rd .o (39 :: r) = rd (.s 39 (rp 39 [] [39])) r := rfl
        have e2 : fin false (39 :: r) = fin true r := rfl
        rw [e2]
        exact lift (i3 [39] (by decide) (by simp)) e1 rfl
      · have e2 : fin false (c :: r) = fin false r := by rw [fin, if_neg h39]
        rw [e2]
        by_cases h32 : c = 32
        · subst h32
          refine lift i1 rfl ?_
          exact (Wf_cut (pre := []) (by simp)).symm
        · have e3 : tr false (c :: r) = c :: tr false r := by rw [tr, if_neg h39, if_neg fun e => h32 e.1]
          rw [e3]
          refine lift (i2 [c] (by simpa using Ne.symm n10) (by simp)) ?_ rfl
          rw [rd, if_neg h32, if_neg fun h => h.elim h39 n34]
          unfold rp
          simp [h39]
    · by_cases h39 : c = 39
      · subst h39
        have e2 : fin false (39 :: r) = fin true r := rfl
        have e3 : tr false (39 :: r) = 39 :: tr true r := rfl
        rw [e2, e3, app_cons]
        refine lift (i3 (pre ++ [39]) (snoc10 h10 (by decide)) (by simp)) ?_ rfl
        rw [rp_snoc, if_pos rfl, List.append_nil]; rfl
      · have e2 : fin false (c :: r) = fin false r := by rw [fin, if_neg h39]
        rw [e2]
        by_cases h32 : c = 32
        · subst h32
          rw [show tr false (32 :: r) = 10 :: tr false r from rfl, Wf_cut h10, if_neg hp]
          show ((rp 39 [] pre :: (rd .o r).1), (rd .o r).2) = (if fin false r = true then (rp 39 [] pre :: (rd .o r).1) else rp 39 [] pre :: Wf (tr false r), fin false r)
          rw [i1]
          dsimp only
          cases hf : fin false r
          · rfl
          · rfl
        · have e3 : tr false (c :: r) = c :: tr false r := by rw [tr, if_neg h39, if_neg fun e => h32 e.1]
          rw [e3, app_cons]
          refine lift (i2 (pre ++ [c]) (snoc10 h10 n10) (by simp)) ?_ rfl
          rw [rd, if_neg h32, if_neg fun h => h.elim h39 n34, rp_snoc, if_neg h39]
    · by_cases h39 : c = 39
      · subst h39
        have e2 : fin true (39 :: r) = fin false r := rfl
        have e3 : tr true (39 :: r) = 39 :: tr false r := rfl
        rw [e2, e3, app_cons]
        refine lift (i2 (pre ++ [39]) (snoc10 h10 (by decide)) (by simp)) ?_ rfl
        rw [rp_snoc, if_pos rfl, List.append_nil, rd, if_pos rfl]
      · have e2 : fin true (c :: r) = fin true r := by rw [fin, if_neg h39]
        have e3 : tr true (c :: r) = c :: tr true r := by rw [tr, if_neg h39, if_neg fun e => Bool.noConfusion e.2]
        rw [e2, e3, app_cons]
        refine lift (i3 (pre ++ [c]) (snoc10 h10 n10) (by simp)) ?_ rfl
        rw [rd, if_neg h39, rp_snoc, if_neg h39]
theorem rd_text {t : List Nat} (hs : ∀ c ∈ t, small c) : (rd .o t).2 = decide ((spl 39 t).length % 2 = 0) ∧ (if (rd .o t).2 then [t] else (rd .o t).1) = lwords t := by
  have h1 := (rd_words t hs).1
  have h2 := fin_spl t false
  have h3 : (decide ((spl 39 t).length % 2 = 0) != false) = decide ((spl 39 t).length % 2 = 0) := by cases decide ((spl 39 t).length % 2 = 0) <;> rfl
  rw [h3] at h2
  rw [h1]
  dsimp only
  refine ⟨h2, ?_⟩
  unfold lwords
  by_cases he : (spl 39 t).length % 2 = 0
  · rw [h2, decide_eq_true he, if_pos he]; rfl
  · rw [h2, decide_eq_false he, if_neg he, evs_all, tr_spl]; rfl

end
/-! text Q8 -/
section

/-! the words, joined and read again -/
noncomputable def wordOk (w : List Nat) : Prop := w.length ≤ 100 ∧ ∀ c ∈ w, small c
theorem small_ok {c : Nat} (h : small c) (h32 : c ≠ 32) (h39 : c ≠ 39) : okc c := by
  rcases h with h | h | h | h | h | h
  · exact .inl h
  · exact .inr (.inl h)
  · exact absurd h h32
  · exact absurd h h39
  · exact .inr (.inr (.inl h))
  · exact .inr (.inr (.inr h))
theorem rd_w_run : ∀ (u tok r : List Nat), (∀ c ∈ u, okc c) → rd (.w tok) (u ++ r) = rd (.w (tok ++ u)) r
  | [], tok, r, _ => by rw [List.append_nil]; rfl
  | c :: u, tok, r, h => by
    have hc := okc_ne (h c (by simp))
    rw [List.cons_append, rd, if_neg hc.1, if_neg hc.2, rd_w_run u _ r fun x hx => h x (List.mem_cons_of_mem _ hx)]
    simp
theorem rd_s_run : ∀ (p tok r : List Nat), rd (.s 39 tok) (rp 39 q5 p ++ 39 :: r) = rd (.w (tok ++ p)) r
  | [], tok, r => by rw [List.append_nil]; rfl
  | c :: p, tok, r => by
    have ih := rd_s_run p (tok ++ [c]) r
    have e : rp 39 q5 (c :: p) = (if c = 39 then q5 else [c]) ++ rp 39 q5 p := by unfold rp; rw [List.flatMap_cons]
    rw [e, List.append_assoc, show tok ++ c :: p = (tok ++ [c]) ++ p by simp, ← ih]
    by_cases hc : c = 39
    · subst hc
      rw [if_pos rfl]; rfl
    · rw [if_neg hc, List.singleton_append, rd, if_neg hc]
theorem rd_one {w : List Nat} (h : ∀ c ∈ w, small c) (r : List Nat) : rd .o (ql w ++ r) = rd (.w w) r := by
  unfold ql
  by_cases hq : w = [] ∨ 32 ∈ w ∨ 39 ∈ w
  · rw [if_pos hq]
    have := rd_s_run w [] r
    rw [List.nil_append] at this
    rw [← this, List.cons_append, List.append_assoc]; rfl
  · rw [if_neg hq]
    cases w with
    | nil => exact absurd (.inl rfl) hq
    | cons c u =>
      have ho : ∀ x ∈ c :: u, okc x := fun x hx => small_ok (h x hx) (fun e => hq (.inr (.inl (e ▸ hx)))) fun e => hq (.inr (.inr (e ▸ hx)))
      have hc := okc_ne (ho c (by simp))
      have := rd_w_run u [c] r fun x hx => ho x (List.mem_cons_of_mem _ hx)
      rw [List.cons_append, rd, if_neg hc.1, if_neg hc.2, this]; rfl
theorem rd_line : ∀ ws : List (List Nat), (∀ w ∈ ws, ∀ c ∈ w, small c) → rd .o (joinL 32 (ws.map ql)) = (ws, false)
  | [], _ => rfl
  | [w], h => by
    have := rd_one (h w (by simp)) []
    rw [List.append_nil] at this
    exact this
  | w :: v :: r, h => by
    have ih := rd_line (v :: r) fun x hx => h x (List.mem_cons_of_mem _ hx)
    show rd .o (ql w ++ 32 :: joinL 32 ((v :: r).map ql)) = _
    rw [rd_one (h w (by simp)), rd, if_pos rfl, ih]
theorem big_of {c : Nat} (h : small c) : big c := by
  rcases h with h | h | h | h | h | h
  · exact .inl (.inl h)
  · exact .inl (.inr (.inl h))
  · exact .inr (.inl h)
  · exact .inr (.inr (.inl h))
  · exact .inl (.inr (.inr (.inl h)))
  · exact .inl (.inr (.inr (.inr h)))
theorem rp_big {p : List Nat} (h : ∀ c ∈ p, small c) : ∀ c ∈ rp 39 q5 p, big c := fun c hc => by
  unfold rp at hc
  obtain ⟨x, hx, hc⟩ := List.mem_flatMap.mp hc
  split at hc
  · simp only [q5, List.mem_cons, List.not_mem_nil, or_false] at hc
    rcases hc with rfl | rfl | rfl | rfl | rfl
    · exact .inr (.inr (.inl rfl))
    · exact .inr (.inr (.inr rfl))
    · exact .inr (.inr (.inl rfl))
    · exact .inr (.inr (.inr rfl))
    · exact .inr (.inr (.inl rfl))
  · rw [List.mem_singleton.mp hc]; exact big_of (h x hx)
theorem ql_big {p : List Nat} (h : ∀ c ∈ p, small c) : ∀ c ∈ ql p, big c := fun c hc => by
  unfold ql at hc
  split at hc
  · rcases List.mem_cons.mp hc with rfl | hc
    · exact .inr (.inr (.inl rfl))
    · rcases List.mem_append.mp hc with hc | hc
      · exact rp_big h c hc
      · rw [List.mem_singleton.mp hc]; exact .inr (.inr (.inl rfl))
  · exact big_of (h c hc)
theorem joinL_mem {c d : Nat} : ∀ {ps : List (List Nat)}, c ∈ joinL d ps → c = d ∨ ∃ p ∈ ps, c ∈ p
  | [], h => by simp [joinL] at h
  | [x], h => .inr ⟨x, by simp, h⟩
  | x :: y :: r, h => by
    rcases List.mem_append.mp (show c ∈ x ++ d :: joinL d (y :: r) from h) with h | h
    · exact .inr ⟨x, by simp, h⟩
    · rcases List.mem_cons.mp h with h | h
      · exact .inl h
      · exact (joinL_mem h).imp id fun ⟨p, hp, hc⟩ => ⟨p, List.mem_cons_of_mem _ hp, hc⟩
theorem toks_line (ws : List (List Nat)) (h : ∀ w ∈ ws, wordOk w) : Toks false .ws (joinL 32 (ws.map ql)) (tv ws) := by
  have h1 := (rd_toks (joinL 32 (ws.map ql)) fun c hc => by
    rcases joinL_mem hc with rfl | ⟨p, hp, hc⟩
    · exact .inr (.inl rfl)
    · obtain ⟨w, hw, rfl⟩ := List.mem_map.mp hp
      exact ql_big (h w hw).2 c hc).1
  rw [rd_line ws fun w hw => (h w hw).2] at h1
  exact h1
theorem toks_text {t : List Nat} (hs : ∀ c ∈ t, small c) : Toks (decide ((spl 39 t).length % 2 = 0)) .ws t (tv (rd .o t).1) := by
  have h1 := (rd_toks t fun c hc => big_of (hs c hc)).1
  rw [(rd_text hs).1] at h1
  exact h1
theorem quo_ql {w : List Nat} (h : ∀ c ∈ w, small c) : quo w = ql w := by
  have key : ∀ c, small c → (safeC c = true ↔ c ≠ 32 ∧ c ≠ 39) := fun c hc => by rcases hc with rfl | rfl | rfl | rfl | rfl | rfl <;> decide +kernel
  unfold quo ql
  by_cases h0 : w = []
  · subst h0; rfl
  · rw [if_neg h0]
    by_cases hq : 32 ∈ w ∨ 39 ∈ w
    · have hn : ¬ (w.all safeC = true) := fun e => by
        have ha := List.all_eq_true.mp e
        rcases hq with hq | hq
        · exact ((key 32 (h _ hq)).mp (ha _ hq)).1 rfl
        · exact ((key 39 (h _ hq)).mp (ha _ hq)).2 rfl
      rw [if_neg hn, if_pos (.inr hq)]
    · have hp : w.all safeC = true := List.all_eq_true.mpr fun c hc => (key c (h c hc)).mpr ⟨fun e => hq (.inl (e ▸ hc)), fun e => hq (.inr (e ▸ hc))⟩
      rw [if_pos hp, if_neg fun e : w = [] ∨ 32 ∈ w ∨ 39 ∈ w => e.elim h0 hq]
theorem spl_mem {c : Nat} : ∀ {t r : List Nat}, r ∈ spl c t → (∀ x ∈ r, x ∈ t) ∧ c ∉ r
  | [], r, h => by rw [List.mem_singleton.mp h]; simp
  | x :: t, r, h => by
    obtain ⟨h', q, e⟩ := spl_ne c t
    have ih : ∀ {r}, r ∈ spl c t → (∀ x ∈ r, x ∈ t) ∧ c ∉ r := fun h => spl_mem h
    rw [e] at ih
    unfold spl at h
    split at h
    · rcases List.mem_cons.mp h with rfl | h
      · simp
      · rw [e] at h
        obtain ⟨h1, h2⟩ := ih h
        exact ⟨fun y hy => List.mem_cons_of_mem _ (h1 y hy), h2⟩
    · rename_i hx
      rw [e] at h
      rcases List.mem_cons.mp h with rfl | h
      · obtain ⟨h1, h2⟩ := ih (List.mem_cons_self ..)
        refine ⟨fun y hy => ?_, fun hm => ?_⟩
        · rcases List.mem_cons.mp hy with rfl | hy
          · simp
          · exact List.mem_cons_of_mem _ (h1 y hy)
        · rcases List.mem_cons.mp hm with e' | hm
          · exact hx e'.symm
          · exact h2 hm
      · obtain ⟨h1, h2⟩ := ih (List.mem_cons_of_mem _ h)
        exact ⟨fun y hy => List.mem_cons_of_mem _ (h1 y hy), h2⟩
theorem tr_len : ∀ (t : List Nat) (q : Bool), (tr q t).length = t.length
  | [], _ => rfl
  | c :: r, q => by
    unfold tr
    split
    · rw [List.length_cons, tr_len r, List.length_cons]
    · rw [List.length_cons, tr_len r, List.length_cons]
theorem tr_mem {c : Nat} : ∀ {t : List Nat} {q : Bool}, c ∈ tr q t → c = 10 ∨ c ∈ t
  | [], _, h => nomatch h
  | x :: r, q, h => by
    unfold tr at h
    split at h
    · rename_i hx
      rcases List.mem_cons.mp h with h | h
      · exact .inr (by rw [h, hx]; simp)
      · exact (tr_mem h).imp id (List.mem_cons_of_mem _)
    · rcases List.mem_cons.mp h with h | h
      · split at h
        · exact .inl h
        · exact .inr (by rw [h]; simp)
      · exact (tr_mem h).imp id (List.mem_cons_of_mem _)
theorem rp0_mem {c x : Nat} {t : List Nat} (h : x ∈ rp c [] t) : x ∈ t := by
  unfold rp at h
  obtain ⟨y, hy, h⟩ := List.mem_flatMap.mp h
  split at h
  · cases h
  · rw [List.mem_singleton.mp h]; exact hy
theorem rp0_len (c : Nat) : ∀ t : List Nat, (rp c [] t).length ≤ t.length
  | [] => Nat.le_refl _
  | x :: t => by
    have ih := rp0_len c t
    unfold rp at ih ⊢
    rw [List.flatMap_cons, List.length_append, List.length_cons]
    split
    · simp only [List.length_nil]; omega
    · simp only [List.length_cons, List.length_nil]; omega
theorem lwords_ok {t : List Nat} (hs : ∀ c ∈ t, small c) (hz : t.length ≤ 30) : (∀ w ∈ lwords t, wordOk w) ∧ (lwords t).length ≤ 200 := by
  unfold lwords
  split
  · refine ⟨fun w hw => ?_, by simp⟩
    rw [List.mem_singleton.mp hw]
    exact ⟨by omega, hs⟩
  · rw [evs_all, tr_spl]
    have hl := tr_len t false
    have hsp := spl_len 10 (tr false t)
    refine ⟨fun w hw => ?_, ?_⟩
    · obtain ⟨r, hr, rfl⟩ := List.mem_map.mp hw
      have hr := (List.mem_filter.mp hr).1
      obtain ⟨m1, m2⟩ := spl_mem hr
      refine ⟨Nat.le_trans (rp0_len 39 r) (Nat.le_trans (hsp.2 r hr) (by omega)), fun c hc => ?_⟩
      have hcr := rp0_mem hc
      exact (tr_mem (m1 c hcr)).elim (fun e => absurd (e ▸ hcr) m2) (hs c)
    · rw [List.length_map]
      exact Nat.le_trans (List.length_filter_le _ _) (by omega)
theorem any_tv (p : List Nat) (ps : List (List Nat)) : (tv ps).any (isStrV (S p)) = decide (p ∈ ps) := by
  induction ps with
  | nil => rfl
  | cons a r ih =>
    have e : tv (a :: r) = .str (S a) 0 :: tv r := rfl
    rw [e, List.any_cons, ih]
    have e2 : isStrV (S p) (.str (S a) 0) = decide (a = p) := by
      show (S a == S p) = _
      by_cases h : a = p
      · subst h; simp
      · rw [decide_eq_false h, beq_eq_false_iff_ne]; exact fun e => h (S_inj e)
    rw [e2]
    by_cases h : a = p
    · subst h; simp
    · have h' : ¬ p = a := fun e => h e.symm
      simp [h, h']
theorem filter_tv (ps : List (List Nat)) (f : Value → Bool) (g : List Nat → Bool) (h : ∀ p ∈ ps, f (.str (S p) 0) = g p) : (tv ps).filter f = tv (ps.filter g) := by
  induction ps with
  | nil => rfl
  | cons a r ih =>
    have e : tv (a :: r) = .str (S a) 0 :: tv r := rfl
    have ih := ih fun p hp => h p (List.mem_cons_of_mem _ hp)
    rw [e, List.filter_cons, h a (by simp), List.filter_cons, ih]
    split <;> rfl
noncomputable def wOut (a b : List (List Nat)) : List (List Nat) := a.filter fun p => !decide (p ∈ b)
noncomputable def wIn (a b : List (List Nat)) : List (List Nat) := a.filter fun p => decide (p ∈ b)
theorem out_tv (a b : List (List Nat)) : (tv a).filter (outOf (tv b)) = tv (wOut a b) := filter_tv a _ _ fun p _ => by show (!(tv b).any (isStrV (S p))) = _; rw [any_tv]
theorem in_tv (a b : List (List Nat)) : (tv a).filter (inV (tv b)) = tv (wIn a b) := filter_tv a _ _ fun p _ => any_tv p b
theorem out_out (a b : List (List Nat)) : wOut a (wOut a b) = wIn a b := by
  unfold wOut wIn
  refine List.filter_congr fun p hp => ?_
  by_cases h : p ∈ b
  · simp [h]
  · simp [h, hp]

end
/-! text U19 -/
section

/-! what the law knows, said apart -/
theorem small_lt {c : Nat} (h : small c) : c < 128 := by rcases h with rfl | rfl | rfl | rfl | rfl | rfl <;> decide
theorem sgn_lt (c : Int) : sgn0 c < 128 ∧ sgn1 c < 128 := by
  obtain ⟨h0, h1⟩ := sgn_in c
  exact ⟨by rcases h0 with h | h | h <;> rw [h] <;> decide, by rcases h1 with h | h | h <;> rw [h] <;> decide⟩
theorem u8_nat {n : Nat} (h : n < 128) : n.toUInt8.toNat = n := by simp; omega
theorem two128 (c : Int) : ∀ d ∈ (S [sgn0 c, sgn1 c]).cps.toList, d < 128 := fun d hd => by
  rw [S_all] at hd
  rcases List.mem_cons.mp hd with rfl | hd
  · exact (sgn_lt c).1
  · rw [List.mem_singleton.mp hd]; exact (sgn_lt c).2
theorem two8 (c : Int) : Array.map (fun x => x.toUInt8) (S [sgn0 c, sgn1 c]).cps = #[(sgn0 c).toUInt8, (sgn1 c).toUInt8] := by simp
theorem octs_size {b : Array UInt8} {fs : List Nat} (h : b.toList.map (·.toNat) = octs fs) (hz : fs.length < 17) : b.size ≤ 12 := by
  have := congrArg List.length h
  rw [List.length_map, octs, List.length_map, List.length_range, Array.length_toList] at this
  exact this ▸ Nat.le_of_lt_succ (oct_num0 _ hz).1
theorem back8 {c : Array UInt8} {t : List Nat} (h : c.toList.map (·.toNat) = t) : c.toList = t.map (·.toUInt8) := by
  rw [← h, List.map_map]
  refine ((List.map_congr_left fun x _ => ?_).trans (List.map_id _)).symm
  simp
theorem same8 {c : Array UInt8} {t : List Nat} (h : c.toList.map (·.toNat) = t) : (c.toList != (Array.map (fun x => x.toUInt8) (S t).cps).toList) = false := by rw [back8 h]; simp
theorem text8 {c : Array UInt8} {t : List Nat} (h : c.toList.map (·.toNat) = t) : (⟨c.map (·.toNat)⟩ : Str) = S t := by
  apply Str.ext'; show c.map (·.toNat) = t.toArray; rw [← h, ← Array.toList_map, Array.toArray_toList]
theorem size8 {c : Array UInt8} {t : List Nat} (h : c.toList.map (·.toNat) = t) (hz : t.length ≤ 21) : c.size ≤ 1000000 := by
  have := congrArg List.length h
  rw [List.length_map, Array.length_toList] at this
  exact this ▸ Nat.le_trans hz (by decide)
theorem lt8 {c : Array UInt8} {t : List Nat} (h : c.toList.map (·.toNat) = t) (hs : ∀ x ∈ t, small x) : ∀ x ∈ c.toList, x.toNat < 128 := fun x hx => small_lt (hs _ (h ▸ List.mem_map_of_mem hx))
theorem S_mill {t : List Nat} (h : t.length ≤ 21) : (S t).length ≤ 1000000 := by rw [S_len]; exact Nat.le_trans h (by decide)
theorem tv_mill {ps : List (List Nat)} (hz : ps.length ≤ 200) : (tv ps).length ≤ 1000000 := by rw [tv_length]; exact Nat.le_trans hz (by decide)
theorem two_le : 2 ≤ sizeLine := by rw [sizeLine_eq]; decide
theorem rng3 {m k : Nat} (h : Nat.ble m k = true) {r : Nat} (hr : k ≤ r) : m ≤ r := Nat.le_trans (Nat.le_of_ble_eq_true h) hr
theorem len1000 {ps : List (List Nat)} (h : ∀ w ∈ ps, wordOk w) : ∀ p ∈ ps, p.length ≤ 1000 := fun p hp => Nat.le_trans (h p hp).1 (by decide)
theorem quo_all {ps : List (List Nat)} (h : ∀ w ∈ ps, wordOk w) : ps.map quo = ps.map ql := List.map_congr_left fun p hp => quo_ql (h p hp).2
theorem line_le {ps : List (List Nat)} (h : ∀ w ∈ ps, wordOk w) (hz : ps.length ≤ 200) : (joinL 32 (ps.map ql)).length ≤ 1000000 := by
  have h1 := joinL_le 32 (ps.map ql) 502 fun p hp => by
    obtain ⟨q, hq, rfl⟩ := List.mem_map.mp hp
    have := (h q hq).1
    have h5 : (rp 39 q5 q).length ≤ q.length * 5 := rp_le 39 q5 (by decide) (by decide) q
    unfold ql
    split
    · simp only [List.length_cons, List.length_append, List.length_nil]; omega
    · omega
  rw [List.length_map] at h1
  exact Nat.le_trans h1 (Nat.le_trans (Nat.mul_le_mul_right _ hz) (by decide))
noncomputable def wd (ns : List Int) (z : Int) : List (List Nat) := lwords (textOf ns z)
theorem wd_ok {ns : List Int} (hn : ns.length ≤ 63) {z : Int} (hz : z = 1 ∨ z = 2) : (∀ w ∈ wd ns z, wordOk w) ∧ (wd ns z).length ≤ 200 := lwords_ok (textOf_small ns z) (Nat.le_trans (textOf_length hn hz) (by decide))
theorem sub_ok {a : List (List Nat)} (h : (∀ w ∈ a, wordOk w) ∧ a.length ≤ 200) (f : List Nat → Bool) : (∀ w ∈ a.filter f, wordOk w) ∧ (a.filter f).length ≤ 200 := ⟨fun w hw => h.1 w (List.mem_filter.mp hw).1, Nat.le_trans (List.length_filter_le _ _) h.2⟩
theorem read_eq {t : List Nat} (hs : ∀ c ∈ t, small c) : (if decide ((spl 39 t).length % 2 = 0) then [Value.str (S t) 0] else tv (rd .o t).1) = tv (lwords t) := by
  obtain ⟨h1, h2⟩ := rd_text hs
  rw [← h2, h1]
  split <;> rfl
theorem rd_mill {t : List Nat} (h : t.length ≤ 21) : (tv (rd .o t).1).length ≤ 1000000 := by
  rw [tv_length]; exact Nat.le_trans (rd_len t .o) (by omega)
noncomputable def OBi (ns : List Int) (Tl Dl : Addr) : Nat → List (Addr × AO) → Prop
  | 0, O => O = [(Tl, .list []), (Dl, .list [])]
  | 1, O => ∃ a0 b0, O = [(Tl, .list [.ref a0]), (Dl, .list [.ref b0]), (b0, .list (tv (wd ns 1))), (a0, .list (tv (wd ns 1)))]
  | _, O => ∃ a0 a1 b0 b1, O = [(Tl, .list [.ref a0, .ref a1]), (Dl, .list [.ref b0, .ref b1]), (b0, .list (tv (wd ns 1))), (a0, .list (tv (wd ns 1))), (b1, .list (tv (wd ns 2))), (a1, .list (tv (wd ns 2)))]
theorem OBi.next {ns : List Int} {Tl Dl : Addr} {i : Nat} {O : List (Addr × AO)} (h : OBi ns Tl Dl i O) (hi : i < 2) : ∃ xs ys, xs.length ≤ 1000000 ∧ ys.length ≤ 1000000 ∧ (Tl, AO.list xs) ∈ O ∧
    ∀ a, ∃ O₁, PutO Tl (.list xs) (.list (xs ++ [.ref a])) O O₁ ∧ (Dl, AO.list ys) ∈ O₁ ∧ ∀ b, ∃ O₂ K, PutO Dl (.list ys) (.list (ys ++ [.ref b])) O₁ O₂ ∧ OBi ns Tl Dl (i + 1) K ∧
      ((b, AO.list (tv (wd ns ((i : Int) + 1)))) :: (a, AO.list (tv (wd ns ((i : Int) + 1)))) :: O₂).Perm K := by
  match i, h, hi with
  | 0, h, _ =>
    subst h
    refine ⟨[], [], Nat.zero_le _, Nat.zero_le _, List.mem_cons_self .., fun a => ⟨_, .head, by simp, fun b => ⟨_, _, .tail .head, ⟨a, b, rfl⟩, ?_⟩⟩⟩
    exact List.perm_append_comm (l₁ := [(b, AO.list (tv (wd ns 1))), (a, AO.list (tv (wd ns 1)))])
  | 1, h, _ =>
    obtain ⟨a0, b0, rfl⟩ := h
    refine ⟨[.ref a0], [.ref b0], Nat.le_of_ble_eq_true rfl, Nat.le_of_ble_eq_true rfl, List.mem_cons_self .., fun a => ⟨_, .head, by simp, fun b => ⟨_, _, .tail .head, ⟨a0, a, b0, b, rfl⟩, ?_⟩⟩⟩
    exact List.perm_append_comm (l₁ := [(b, AO.list (tv (wd ns 2))), (a, AO.list (tv (wd ns 2)))])

end
/-! text U20 -/
section

noncomputable abbrev lawLc (ns : List Int) (l Tl Dl : Addr) (pv fv wv xv lo bo ro ws ln : Option Value) : Lc :=
  [("script", some (.ref l)), ("choice", some (.int (chOf ns) 0)), ("two", some (.str (S [sgn0 (chOf ns), sgn1 (chOf ns)]) 0)), ("told", some (.ref Tl)), ("due", some (.ref Dl)), ("place", pv), ("figures", fv), ("written", wv), ("text", xv), ("left_only", lo), ("both", bo), ("right_only", ro), ("words", ws), ("line", ln)]
theorem two_at {i : Nat} {v : Value} (h : ([.int 1 0, .int 2 0] : List Value)[i]? = some v) : i < 2 ∧ v = .int ((i : Int) + 1) 0 := by
  match i, h with
  | 0, h => exact ⟨by decide, (Option.some.inj h).symm⟩
  | 1, h => exact ⟨by decide, (Option.some.inj h).symm⟩
  | n + 2, h => cases h
section
variable {w : World} {pg : Program} {loose : List Str} {mg mb : Str → Option Value} {s₁ : Shared}

theorem law_runs (X : (W2 w pg loose mg mb).K.In s₁.heap) (T : TopRead pg loose mg mb s₁.heap) (hP : s₁.heap.get? 820 = some (tabO #[])) (hbm : BM s₁.heap) (hg : s₁.gens = #[]) {l : Addr} {vs : List Value} {ns : List Int} (hl : s₁.heap.IsList l vs.toArray) (hI : IntsAre vs ns) (hn : ns.length ≤ 63)
    {R : Result → Shared → Prop} (hR : ∀ s', OldK s₁.heap s'.heap → s'.os = s₁.os → AllBare s'.gens → R (.ok (.ret (.bool true))) s') : codeAny (model (W2 w pg loose mg mb).prog w) callerA (.call (.ref 865) ⟨[.ref l], []⟩) R s₁ := by
  refine' c_top (P := 820) (ps := #[]) (nb := [("script", .ref l)]) (pn := ["script"]) (others := ["choice", "two", "told", "due", "place", "figures", "written", "text", "left_only", "both", "right_only", "words", "line"]) (Q := fun v σ => v = .bool true ∧ ∃ more, (820, AO.raw (tabO more)) ∈ σ.obj)
    X ?hPK T hP hg (ho := ?ho) (hcd := ?hcd) (hb := ?hb) (hps := ?hps) (hn := ?hn) (hnf := ?hnf) (hbody := ?hbody) (hR := ?hR) ?_ ?_ ?_
  krn_off
  case hb => exact ⟨[("script", .ref l)], fun S => by kernel_rfl, rfl⟩
  case hR =>
    rintro v s' F' σ' m' news' ⟨hv, more, hm⟩ hb hos R'
    obtain rfl := nv_bool hv
    have htab := (isCode_of (c := 824) X (by kernel_rfl) hP trivial).2
    have h820 : s'.heap.get? 820 = some (tabO more) := R'.rawAt hm
    have hold : ∀ b o, s₁.heap.get? b = some o → b ≠ 820 → s'.heap.get? b = some o := fun b o e n => R'.fr.keep _ _ (R'.bl.stays _ _ (by rw [hb]; exact gd_get e n))
    refine hR s' ⟨fun b o e => ?_, fun b o e => ?_⟩ (R'.os.trans hos) R'.bare.1
    · by_cases n : b = 820
      · subst n
        rw [hP] at e
        cases e
        exact .inr (.inl ⟨htab.isCodeTable, rfl, #[], more, rfl, by rw [h820, Array.empty_append]; rfl⟩)
      · exact .inl (hold b o e n)
    · by_cases n : b = 820
      · subst n; exact ⟨_, h820⟩
      · exact ⟨_, hold b o e n⟩
  intro F' E' O' C' hr' hs hb hE
  have G : Globs (W2 w pg loose mg mb) F' [("b64encode", .ref 118), ("_law_octets", .ref 838), ("_law_writing", .ref 843), ("isinstance", .builtin "isinstance"), ("bytes", .type "bytes"), ("_law_read", .ref 855), ("_law_words", .ref 848), ("_filter", .ref 88), ("join_shlex", .ref 825), ("_law_line", .ref 860), ("split", .ref 818)] := globs_of hs (by kernel_rfl)
  have hB : BL F' l ns := by
    obtain ⟨o, ho, r⟩ := hl
    refine ⟨vs, ⟨o, ?_, r⟩, hI⟩
    rw [hb]
    refine gd_get ho fun e => ?_
    rw [e, hP] at ho; cases ho; exact absurd r.1 (by simp [tabO])
  have hbm' : BM F'.base := by rw [hb]; exact gd_bm hP hbm
  have kd : F'.env.kindOf "figures" = some .local ∧ F'.env.kindOf "due" = some .cell := ⟨by show F'.env.scope.names.lookup _ = _; rw [hs]; rfl, by show F'.env.scope.names.lookup _ = _; rw [hs]; rfl⟩
  clear hs hb X T
  simp only [List.map_cons, List.map_nil, List.cons_append, List.nil_append]
  refine s_mid (fun σ => ∃ z, σ = ⟨[("script", some (.ref l)), ("choice", some (.int (chOf ns) 0)), ("two", none), ("told", none), ("due", none), ("place", none), ("figures", none), ("written", none), ("text", none), ("left_only", none), ("both", none), ("right_only", none), ("words", none), ("line", none)], [(z, .list []), (820, .raw (tabO #[]))]⟩) ?_ ?_
  · kcj_in
    refine ⟨by decide, fun z => x_ne_nilB O' hB (List.mem_cons_self ..) ?_⟩
    by_cases hns : ns = []
    · refine sel_f (decide_eq_false (fun h => h hns)) ?_
      kcj_in
      exact ⟨rfl, z, by subst hns; rfl⟩
    · refine sel_t (decide_eq_true hns) ?_
      kcj_in
      refine i_listB (x := chOf ns) hB (by decide) ?_ (by omega) ?_
      · cases ns with
        | nil => exact absurd rfl hns
        | cons a r => rfl
      · kcj_in
        exact ⟨rfl, z, rfl⟩
  rintro σ ⟨z, rfl⟩
  obtain ⟨hc0, hc1⟩ := sgn_in (chOf ns)
  have e3s : Str.ofString " '-" = S sg3 := by decide +kernel
  kcj_in
  refine o_mod (by decide) ?_
  refine i_str (c := sgn0 (chOf ns)) (fmod3 _).1 ?_ (by rw [sizeLine_eq]; decide +kernel) ?_
  · rw [e3s, S_all]; exact sg3_at (fmod3 _)
  kcj_in
  refine o_fdiv (by decide) (by decide) ?_
  kcj_in
  refine o_mod (by decide) ?_
  refine i_str (c := sgn1 (chOf ns)) (fmod3 _).1 ?_ (by rw [sizeLine_eq]; decide +kernel) ?_
  · rw [e3s, S_all]; exact sg3_at (fmod3 _)
  kcj_in
  refine o_add_str (by show 1 + 1 ≤ _; rw [sizeLine_eq]; decide) ?_
  rw [S_add, List.singleton_append]
  kcj_in
  refine ⟨Nat.zero_le _, fun Tl => ?_⟩
  kcj_in
  refine ⟨Nat.zero_le _, fun Dl => ?_⟩
  kcj_in
  dsimp only
  refine Go.shed' (keep := (820, .raw (tabO #[])) :: [(Tl, .list []), (Dl, .list [])]) ?_ ?_
  · tb_rel
  refine s_forL O' C' hE [.int 1 0, .int 2 0] (fun κ o => (κ, AO.list [.int 1 0, .int 2 0]) ∈ o) (fun κ i σ => ∃ pv fv wv xv junk O, OBi ns Tl Dl i O ∧ σ = ⟨lawLc ns l Tl Dl pv fv wv xv none none none none none, junk ++ (κ, .list [.int 1 0, .int 2 0]) :: (820, .raw (tabO #[])) :: O⟩) ?_ ?_ ?_ ?_
  · kcj_in
    refine ⟨Nat.le_of_ble_eq_true rfl, fun L => ⟨L, Iters.list (List.mem_cons_self ..), none, none, none, none, [], _, rfl, rfl⟩⟩
  · rintro L i σ ⟨_, _, _, _, junk, O, _, rfl⟩
    exact List.mem_append_right _ (List.mem_cons_self ..)
  · rintro L raws Or Cr i v σ hv ⟨pv, fv, wv, xv, junk, O, hO, rfl⟩
    obtain ⟨hi, rfl⟩ := two_at hv
    obtain ⟨xs, ys, hx, hy, hT, hnext⟩ := hO.next hi
    have hz12 : (i : Int) + 1 = 1 ∨ (i : Int) + 1 = 2 := by omega
    have hBr : BL (F'.wr raws) l ns := hB
    have hEr : PassesOwn (model (W2 w pg loose mg mb).prog (W2 w pg loose mg mb).w) (F'.wr raws).A (F'.wr raws).env E' := hE
    have Gr : Globs (W2 w pg loose mg mb) (F'.wr raws) _ := G
    clear hO hv
    generalize (i : Int) + 1 = z at hz12 hnext ⊢
    have hfl := figsOf_length hn hz12
    have hTl := textOf_length hn hz12
    have hTs := textOf_small ns z
    refine asg_i (l' := lawLc ns l Tl Dl (some (.int z 0)) fv wv xv none none none none none) ?_ ?_
    · tb_rel
    refine GoF.shed (keep := (L, .list [.int 1 0, .int 2 0]) :: (820, .raw (tabO #[])) :: O) (junk := junk) List.perm_append_comm ?_
    refine GoF.less ?_
    kcj_in
    refine s_comp Or Cr [] (intV (pickNums ns (some z) (some 33) (some 2))) (fun _ => true) (mapI fun k => (fgAt k : Int)) (sw_comp Or.hk kd.1 (by kernel_rfl)) (by kernel_rfl) (by simp) ?_
    refine v_slice3B (x := z) (y := 33) (z := 2) hBr (by omega) (by decide) ?_ (fun _ _ => rfl)
    kcj_in
    have hpl : (intV (pickNums ns (some z) (some 33) (some 2))).length ≤ 1000000 := by
      unfold figsOf at hfl
      rw [List.length_map] at hfl
      rw [intV, List.length_map]
      omega
    refine ⟨rfl, rfl, rfl, rfl, fun D₀ => ⟨⟨by kernel_rfl, by simp, ⟨_, Iters.list (List.mem_cons_self ..), fun _ _ h => List.mem_cons_of_mem _ h⟩, hpl, fun C extra cl OG v hv => tests_none, fun C extra cl OG v hv _ => ?_⟩, fun D => ?_⟩⟩
    · obtain ⟨x, hxm, rfl⟩ := List.mem_map.mp hv
      intro E₁ obs hsub
      generalize (F'.wr raws).cm _ cl C extra = G at OG
      simp only [cmL, List.map_nil]
      kcj_in
      refine ⟨by decide, fun q => ?_⟩
      kcj_in
      refine o_mod (by decide) ?_
      refine i_list (List.mem_cons_self ..) (fmod4 x).1 (x := .int (fgAt x : Int) 0) ?_ (by rw [sizeLine_eq]; decide) ?_
      · show (natV [0, 26, 62, 63])[_]? = _
        rw [natV, List.getElem?_map, fgAt_at]; rfl
      · exact Less.of (keep := obs) (junk := [(q, _)]) (List.perm_append_singleton _ _).symm ⟨rfl, rfl⟩
    have hfm : (((intV (pickNums ns (some z) (some 33) (some 2))).filter fun _ => true).map (mapI fun k => (fgAt k : Int))) = natV (figsOf ns z) := by
      rw [filter_all]
      simp [intV, natV, figsOf, mapI, Function.comp_def]
    rw [hfm]
    kcj_in
    refine t_octets Or Cr (show 2 ≤ F'.room from rng3 rfl hr') (List.mem_cons_self ..) (Nat.lt_succ_of_le hfl) fun b hbv => ?_
    kcj_in
    refine m_str PySem.F.slot_str_encode PySem.F.type_str_encode ?_
    kcj_in
    refine f_encode (two128 _) (Nat.le_of_ble_eq_true rfl) ?_
    kcj_in
    rw [two8]
    refine t_b64 Or Cr (show _ ≤ F'.room from rng3 rfl hr') (octs_size hbv (Nat.lt_succ_of_le hfl)) fun c hcv => ?_
    rw [hbv, u8_nat (sgn_lt _).1, u8_nat (sgn_lt _).2, writ_octs _ _ _ (figsOf_lt ns z) (Nat.lt_succ_of_le hfl), show wtext (sgn0 (chOf ns)) (sgn1 (chOf ns)) (figsOf ns z) = textOf ns z from rfl] at hcv
    kcj_in
    refine t_writing Or Cr (show 2 ≤ F'.room from rng3 rfl hr') (by kcj_m) (Nat.lt_succ_of_le hfl) (figsOf_lt ns z) ?_
    rw [show wtext (sgn0 (chOf ns)) (sgn1 (chOf ns)) (figsOf ns z) = textOf ns z from rfl]
    generalize ht : textOf ns z = t at hcv hTl hTs
    have hwd : wd ns z = lwords t := congrArg lwords ht
    rw [hwd] at hnext
    kcj_in
    refine m_str PySem.F.slot_str_encode PySem.F.type_str_encode ?_
    kcj_in
    refine f_encode (by rw [S_all]; exact fun c hc => small_lt (hTs c hc)) (S_mill hTl) ?_
    refine x_ne_bytes ?_
    rw [same8 hcv]
    kcj_in
    refine f_isi (T := "bytes") rfl (by kernel_rfl) (by rw [isSubtype_type]; kernel_rfl) ?_
    kcj_in
    refine m_list (xs := xs) (by kcj_m) slot_list_append (by rfl) ?_
    kcj_in
    refine m_bytes FB.slot_bytes_decode FB.type_bytes_decode ?_
    kcj_in
    refine f_decode (lt8 hcv hTs) (size8 hcv hTl) ?_
    rw [text8 hcv]
    kcj_in
    refine t_lread Or Cr (show 13 ≤ F'.room from rng3 rfl hr') (S_mill hTl) (rd_mill hTl) (by rw [S_all]; exact toks_text hTs) fun a => ?_
    rw [read_eq hTs]
    obtain ⟨O₁, U₁, hD, hnext2⟩ := hnext a
    kcj_in
    refine f_append (v := .ref a) (xs := xs) (by tb_rel) hx ?_
    kcj_in
    refine m_list (xs := ys) (by kcj_m) slot_list_append (by rfl) ?_
    kcj_in
    refine t_lwords Or Cr (show 2 ≤ F'.room from rng3 rfl hr') (Nat.le_trans hTl (by decide)) fun b => ?_
    obtain ⟨O₂, K, U₂, hK, hp⟩ := hnext2 b
    kcj_in
    refine f_append (v := .ref b) (xs := ys) (by tb_rel) hy ?_
    kcj_in
    refine Less.of (keep := [(D, .list (natV (figsOf ns z))), (D₀, .list (intV (pickNums ns (some z) (some 33) (some 2))))] ++ (L, .list [.int 1 0, .int 2 0]) :: (820, .raw (tabO #[])) :: K) (junk := []) ?_ (lp_next ⟨some (.int z 0), some (.ref D), some (.bytes c 0), some (.str (S t) 0), [(D, .list (natV (figsOf ns z))), (D₀, .list (intV (pickNums ns (some z) (some 33) (some 2))))], K, hK, rfl⟩)
    rw [List.append_nil]
    exact (List.perm_append_comm_assoc [(b, _), (a, _)] [(D, _), (D₀, _), (L, _), (820, _)] O₂).trans (hp.append_left [(D, _), (D₀, _), (L, _), (820, _)])
  · rintro L σ ⟨pv, fv, wv, xv, junk, O, ⟨a0, a1, b0, b1, rfl⟩, rfl⟩
    obtain ⟨hA, hAn⟩ := wd_ok hn (z := 1) (.inl rfl)
    obtain ⟨hBw, hBn⟩ := wd_ok hn (z := 2) (.inr rfl)
    generalize wd ns 1 = wa at hA hAn ⊢
    generalize wd ns 2 = wb at hBw hBn ⊢
    refine nx_next ?_
    refine GoF.shed (keep := (820, .raw (tabO #[])) :: [(Tl, .list [.ref a0, .ref a1]), (Dl, .list [.ref b0, .ref b1]), (b0, .list (tv wa)), (a0, .list (tv wa)), (b1, .list (tv wb)), (a1, .list (tv wb))]) (junk := junk ++ [(L, .list [.int 1 0, .int 2 0])]) ?_ ?_
    · rw [show ∀ K, junk ++ (L, AO.list [.int 1 0, .int 2 0]) :: K = (junk ++ [(L, AO.list [.int 1 0, .int 2 0])]) ++ K from fun K => by simp]
      exact List.perm_append_comm
    kcj_in
    refine i_list (l := Tl) (xs := [.ref a0, .ref a1]) (x := .ref a0) (by kcj_m) (by decide) rfl two_le ?_
    kcj_in
    refine i_list (l := Tl) (xs := [.ref a0, .ref a1]) (x := .ref a1) (by kcj_m) (by decide) rfl two_le ?_
    kcj_in
    refine t_filter O' C' (rng3 rfl hr') (l := a0) (l2 := a1) (xs := tv wa) (ys := tv wb) (by kcj_m) (by kcj_m) (tv_all _) (tv_all _) (tv_mill hAn) fun r0 => ?_
    rw [out_tv]
    kcj_in
    refine i_list (l := Tl) (xs := [.ref a0, .ref a1]) (x := .ref a0) (by kcj_m) (by decide) rfl two_le ?_
    kcj_in
    refine t_filter O' C' (rng3 rfl hr') (l := a0) (l2 := r0) (xs := tv wa) (ys := tv (wOut wa wb)) (by kcj_m) (by kcj_m) (tv_all _) (tv_all _) (tv_mill hAn) fun r1 => ?_
    rw [out_tv, out_out]
    kcj_in
    refine i_list (l := Tl) (xs := [.ref a0, .ref a1]) (x := .ref a1) (by kcj_m) (by decide) rfl two_le ?_
    kcj_in
    refine i_list (l := Tl) (xs := [.ref a0, .ref a1]) (x := .ref a0) (by kcj_m) (by decide) rfl two_le ?_
    kcj_in
    refine t_filter O' C' (rng3 rfl hr') (l := a1) (l2 := a0) (xs := tv wb) (ys := tv wa) (by kcj_m) (by kcj_m) (tv_all _) (tv_all _) (tv_mill hBn) fun r2 => ?_
    rw [out_tv]
    kcj_in
    refine x_ne_same2 O' (rng3 rfl hr') (l := Tl) (b := Dl) (r := [.ref a0, .ref a1]) (q := [.ref b0, .ref b1]) (by kcj_m) (by kcj_m) ?_ ?_
    · exact .cons (by kcj_m) (by kcj_m) (tv_all wa) (.cons (by kcj_m) (by kcj_m) (tv_all wb) .nil)
    kcj_in
    refine v_comp O' [("due", .ref Dl)] (tv wa) (outOf (tv wb)) id (by kernel_rfl) ?_ ?_
    · intro y hy
      rw [List.mem_singleton.mp hy]
      exact ⟨by simp, kd.2⟩
    kcj_in
    refine i_list (l := Dl) (xs := [.ref b0, .ref b1]) (x := .ref b0) (by kcj_m) (by decide) rfl two_le ?_
    refine ⟨⟨by kernel_rfl, ?_, ⟨_, Iters.list (l := b0) (xs := tv wa) (by kcj_m), fun _ _ h => List.mem_cons_of_mem _ h⟩, tv_mill hAn, fun C extra cl OG v hv => ?_, fun C extra cl OG v hv _ => ?_⟩, fun A₁ => ?_⟩
    · intro q hq
      rw [List.mem_singleton.mp hq]
      exact ⟨by simp, kd.2⟩
    · obtain ⟨r, hrm, rfl⟩ := tv_mem hv
      refine tests_one fun E₁ obs hsub => ?_
      have hD' : (Dl, AO.list [.ref b0, .ref b1]) ∈ obs := hsub _ (by kcj_m)
      have hJ' : (b1, AO.list (tv wb)) ∈ obs := hsub _ (by kcj_m)
      clear hsub
      generalize F'.cm _ cl C extra = G at OG
      simp only [cmL, List.map_cons, List.map_nil]
      kcj_in
      refine i_list (l := Dl) (xs := [.ref b0, .ref b1]) (x := .ref b1) hD' (by decide) rfl two_le ?_
      refine x_notin_list (l := b1) (xs := tv wb) hJ' (tv_all _) ?_
      exact Less.of (keep := obs) (junk := []) (by simp) ⟨rfl, rfl⟩
    · obtain ⟨r, hrm, rfl⟩ := tv_mem hv
      intro E₁ obs hsub
      clear hsub
      generalize F'.cm _ cl C extra = G at OG
      simp only [cmL, List.map_cons, List.map_nil]
      kcj_in
      exact Less.of (keep := obs) (junk := []) (by simp) ⟨rfl, rfl⟩
    rw [List.map_id, out_tv]
    refine x_ne_same O' (l := r0) (b := A₁) (xs := tv (wOut wa wb)) (by kcj_m) (by kcj_m) (tv_all _) ?_
    kcj_in
    refine v_comp O' [("due", .ref Dl)] (tv wa) (inV (tv wb)) id (by kernel_rfl) ?_ ?_
    · intro y hy
      rw [List.mem_singleton.mp hy]
      exact ⟨by simp, kd.2⟩
    kcj_in
    refine i_list (l := Dl) (xs := [.ref b0, .ref b1]) (x := .ref b0) (by kcj_m) (by decide) rfl two_le ?_
    refine ⟨⟨by kernel_rfl, ?_, ⟨_, Iters.list (l := b0) (xs := tv wa) (by kcj_m), fun _ _ h => List.mem_cons_of_mem _ h⟩, tv_mill hAn, fun C extra cl OG v hv => ?_, fun C extra cl OG v hv _ => ?_⟩, fun A₂ => ?_⟩
    · intro q hq
      rw [List.mem_singleton.mp hq]
      exact ⟨by simp, kd.2⟩
    · obtain ⟨r, hrm, rfl⟩ := tv_mem hv
      refine tests_one fun E₁ obs hsub => ?_
      have hD' : (Dl, AO.list [.ref b0, .ref b1]) ∈ obs := hsub _ (by kcj_m)
      have hJ' : (b1, AO.list (tv wb)) ∈ obs := hsub _ (by kcj_m)
      clear hsub
      generalize F'.cm _ cl C extra = G at OG
      simp only [cmL, List.map_cons, List.map_nil]
      kcj_in
      refine i_list (l := Dl) (xs := [.ref b0, .ref b1]) (x := .ref b1) hD' (by decide) rfl two_le ?_
      refine x_in_list (l := b1) (xs := tv wb) hJ' (tv_all _) ?_
      exact Less.of (keep := obs) (junk := []) (by simp) ⟨rfl, rfl⟩
    · obtain ⟨r, hrm, rfl⟩ := tv_mem hv
      intro E₁ obs hsub
      clear hsub
      generalize F'.cm _ cl C extra = G at OG
      simp only [cmL, List.map_cons, List.map_nil]
      kcj_in
      exact Less.of (keep := obs) (junk := []) (by simp) ⟨rfl, rfl⟩
    rw [List.map_id, in_tv]
    refine x_ne_same O' (l := r1) (b := A₂) (xs := tv (wIn wa wb)) (by kcj_m) (by kcj_m) (tv_all _) ?_
    kcj_in
    refine v_comp O' [("due", .ref Dl)] (tv wb) (outOf (tv wa)) id (by kernel_rfl) ?_ ?_
    · intro y hy
      rw [List.mem_singleton.mp hy]
      exact ⟨by simp, kd.2⟩
    kcj_in
    refine i_list (l := Dl) (xs := [.ref b0, .ref b1]) (x := .ref b1) (by kcj_m) (by decide) rfl two_le ?_
    refine ⟨⟨by kernel_rfl, ?_, ⟨_, Iters.list (l := b1) (xs := tv wb) (by kcj_m), fun _ _ h => List.mem_cons_of_mem _ h⟩, tv_mill hBn, fun C extra cl OG v hv => ?_, fun C extra cl OG v hv _ => ?_⟩, fun A₃ => ?_⟩
    · intro q hq
      rw [List.mem_singleton.mp hq]
      exact ⟨by simp, kd.2⟩
    · obtain ⟨r, hrm, rfl⟩ := tv_mem hv
      refine tests_one fun E₁ obs hsub => ?_
      have hD' : (Dl, AO.list [.ref b0, .ref b1]) ∈ obs := hsub _ (by kcj_m)
      have hJ' : (b0, AO.list (tv wa)) ∈ obs := hsub _ (by kcj_m)
      clear hsub
      generalize F'.cm _ cl C extra = G at OG
      simp only [cmL, List.map_cons, List.map_nil]
      kcj_in
      refine i_list (l := Dl) (xs := [.ref b0, .ref b1]) (x := .ref b0) hD' (by decide) rfl two_le ?_
      refine x_notin_list (l := b0) (xs := tv wa) hJ' (tv_all _) ?_
      exact Less.of (keep := obs) (junk := []) (by simp) ⟨rfl, rfl⟩
    · obtain ⟨r, hrm, rfl⟩ := tv_mem hv
      intro E₁ obs hsub
      clear hsub
      generalize F'.cm _ cl C extra = G at OG
      simp only [cmL, List.map_cons, List.map_nil]
      kcj_in
      exact Less.of (keep := obs) (junk := []) (by simp) ⟨rfl, rfl⟩
    rw [List.map_id, out_tv]
    refine x_ne_same O' (l := r2) (b := A₃) (xs := tv (wOut wb wa)) (by kcj_m) (by kcj_m) (tv_all _) ?_
    kcj_in
    dsimp only
    refine Go.shed' (keep := (820, .raw (tabO #[])) :: [(r0, .list (tv (wOut wa wb))), (r1, .list (tv (wIn wa wb))), (r2, .list (tv (wOut wb wa)))]) ?_ ?_
    · tb_rel
    have hw : ∀ (i : Nat) (v : Value), ([.ref r0, .ref r1, .ref r2] : List Value)[i]? = some v → ∃ (r : Addr) (ws : List (List Nat)), v = .ref r ∧ (r, AO.list (tv ws)) ∈ [(r0, AO.list (tv (wOut wa wb))), (r1, AO.list (tv (wIn wa wb))), (r2, AO.list (tv (wOut wb wa)))] ∧ (∀ w ∈ ws, wordOk w) ∧ ws.length ≤ 200 := fun i v h => by
      match i, h with
      | 0, h => exact ⟨r0, wOut wa wb, (Option.some.inj h).symm, by simp, sub_ok ⟨hA, hAn⟩ _⟩
      | 1, h => exact ⟨r1, wIn wa wb, (Option.some.inj h).symm, by simp, sub_ok ⟨hA, hAn⟩ _⟩
      | 2, h => exact ⟨r2, wOut wb wa, (Option.some.inj h).symm, by simp, sub_ok ⟨hBw, hBn⟩ _⟩
      | n + 3, h => cases h
    generalize [(r0, AO.list (tv (wOut wa wb))), (r1, AO.list (tv (wIn wa wb))), (r2, AO.list (tv (wOut wb wa)))] = OB at hw ⊢
    refine s_forL O' C' hE [.ref r0, .ref r1, .ref r2] (fun κ o => (κ, AO.list [.ref r0, .ref r1, .ref r2]) ∈ o) (fun κ i σ => ∃ (T : Array Value) (sv nv : Option Value) (junk : List (Addr × AO)), TriplesOk T.toList ∧ σ = ⟨lawLc ns l Tl Dl pv fv wv xv (some (.ref r0)) (some (.ref r1)) (some (.ref r2)) sv nv, junk ++ (κ, .list [.ref r0, .ref r1, .ref r2]) :: (820, .raw (tabO T)) :: OB⟩) ?_ ?_ ?_ ?_
    · kcj_in
      refine ⟨Nat.le_of_ble_eq_true rfl, fun κ => ⟨κ, Iters.list (List.mem_cons_self ..), #[], none, none, [], trivial, rfl⟩⟩
    · rintro κ i σ ⟨T, _, _, junk, _, rfl⟩
      exact List.mem_append_right _ (List.mem_cons_self ..)
    · rintro κ raws Or Cr i v σ hv ⟨T, sv, nv, junk, hTr, rfl⟩
      obtain ⟨r, ws, rfl, hm, hok, hlen⟩ := hw i v hv
      have Gr : Globs (W2 w pg loose mg mb) (F'.wr raws) _ := G
      refine asg_i (l' := lawLc ns l Tl Dl pv fv wv xv (some (.ref r0)) (some (.ref r1)) (some (.ref r2)) (some (.ref r)) nv) ?_ ?_
      · tb_rel
      refine GoF.shed (keep := (κ, .list [.ref r0, .ref r1, .ref r2]) :: (820, .raw (tabO T)) :: OB) (junk := junk) List.perm_append_comm ?_
      have hlz := tv_mill hlen
      kcj_in
      refine t_join Or Cr (show 3 ≤ F'.room from rng3 rfl hr') hbm' (l := r) (ps := ws) hTr (ob' := fun T' => (κ, .list [.ref r0, .ref r1, .ref r2]) :: (820, .raw (tabO T')) :: OB) (fun T' => .tail .head) (by kcj_m) (fun T' => List.mem_cons_of_mem _ (List.mem_cons_of_mem _ hm)) (Nat.le_trans hlen (by decide)) (len1000 hok) fun more hmore => ?_
      rw [quo_all hok]
      kcj_in
      refine t_lline Or Cr (show 2 ≤ F'.room from rng3 rfl hr') (l := r) (ps := ws) (by kcj_m) (Nat.le_trans hlen (by decide)) (len1000 hok) ?_
      kcj_in
      rw [S_ne, show (joinL 32 (ws.map ql) != joinL 32 (ws.map ql)) = false from by simp]
      kcj_in
      refine t_split Or Cr (show 12 ≤ F'.room from rng3 rfl hr') (by rw [S_len]; exact line_le hok hlen) hlz (b := false) (by rw [S_all]; exact toks_line _ hok) (fun _ s0 => ?_) (fun q => nomatch q)
      kcj_in
      refine x_ne_same Or (l := s0) (b := r) (xs := tv ws) (by kcj_m) (by kcj_m) (tv_all _) ?_
      kcj_in
      exact lp_next ⟨_, _, _, [(s0, _)], hmore, rfl⟩
    · rintro κ σ ⟨T, sv, nv, junk, hTr, rfl⟩
      kcj_in
      exact ⟨rfl, T, List.mem_append_right _ (List.mem_cons_of_mem _ (List.mem_cons_self ..))⟩
end

end
/-! text N30 -/
section

noncomputable def fcode (K : Frag) (a : Addr) : Option Value := match K.lookup a with
  | some ⟨_, _, .func fd, _⟩ => some fd.code
  | _ => none
theorem fcode_of {K : Frag} {a : Addr} {v : Value} (h : fcode K a = some v) : ∃ o fd, K.lookup a = some o ∧ o.data = .func fd ∧ fd.code = v := by
  unfold fcode at h
  split at h
  · rename_i hl; exact ⟨_, _, hl, rfl, Option.some.inj h⟩
  · cases h
theorem tab_at {K : Frag} {h : Heap} {c P Q : Addr} {ps : Array Value} (X : K.In h) (e : codeAtB K c Q = true) (T : h.TableAt c P ps) : P = Q := by
  obtain ⟨⟨o, vs, ho, _, hd, h11⟩, _⟩ := T
  unfold codeAtB at e
  split at e
  · rename_i cl d vs' sl hl
    simp only [Bool.and_eq_true, beq_iff_eq] at e
    obtain ⟨⟨⟨⟨⟨⟨_, e2⟩, _⟩, _⟩, _⟩, _⟩, _⟩ := e
    rw [X _ _ hl] at ho
    cases ho
    cases hd
    rw [h11] at e2
    cases e2
    rfl
  · cases e
theorem post_law {c : ClaimW} {cl : Str → Option Addr} {mean : ExcName → Option Value} {args : List WData} {s₁ s' : Shared} (hr : ∀ args cls, c.raises args cls = false) (hp : c.post args (.bool true) args = true)
    (hK : OldK s₁.heap s'.heap) (hos : s'.os = s₁.os) (hg : AllBare s'.gens) : GoodWG c cl mean args s₁ (.ok (.ret (.bool true))) s' :=
  ⟨.inl ⟨.bool true, .bool true, [], rfl, hr args, .bool true, hp, fun _ => ⟨List.nodup_nil, fun a ha => nomatch ha⟩⟩, hK, hos, hg⟩

end
/-! text U21 -/
section
theorem walk_all {q : Program} {loose : List Str} {d : DefRec} {kwd : List (Str × PySem.Expr)} {e : ∀ P, asKH = (KH P).map (·.1)} (hn : d.name = Str.ofString "law") (hj : ((recsOf q).find? (fun e => e.name == ("join" : Str))).isSome = true) :
    WalkO q loose (XL q []) (kHook KH asKH e).says PySem.Challenge.rw_ik0062_01.row.toRowW d kwd (fun f vs => PySem.call f vs) := by
  intro w s₀ s₁ mg mb G Y fa o pm cd doc dV kV ho hd hcd hD hmg hg args vals as hpre hlay hrd hwl hlo
  have KX := kIn_of Y
  refine Ground.open G ?_
  intro T B D TE TW
  obtain ⟨_, _, M⟩ := bmod_of_top T
  wrow_args hpre hlay hrd hwl hlo
  all_goals (
    first | refine callC_kw (enter_call ?_) | refine enter_call ?_ | refine callC_kw (enter_callW ?_) | refine enter_callW ?_ | w_how
    w_top on)
  rename_i hcond hcond2
  rename Heap.IsList _ _ _ => hL
  rename IntsAre _ _ => hI
  have e1 := mg_of (n := "law") (v := .ref 865) KX T.g (by kernel_rfl)
  have hmg' : mg "law" = some (.ref fa) := by rw [hn] at hmg; exact hmg
  rw [e1] at hmg'
  cases hmg'
  obtain ⟨oj, fj, ej1, ej2, ej3⟩ := Mine.fcode_of (K := KH w.params) (a := 825) (v := .ref 824) (by kernel_rfl)
  obtain ⟨d, hfd⟩ := Option.isSome_iff_exists.mp hj
  obtain ⟨c, P, he, B0⟩ := based_of_top T hfd (mg_of (n := "join") (v := .ref 825) KX T.g (by kernel_rfl)) (KX _ _ ej1) ej2
  rw [ej3] at he
  cases he
  obtain rfl := Mine.tab_at (Q := 820) KX (by kernel_rfl) B0.tab
  refine Mine.law_runs (pg := q) (mg := mg) (mb := mb) KX (topRead_of T) B0.tab.2 ⟨_, _, _, M⟩ hg hL hI ?_ fun s' hK hos hgn => Mine.post_law ?_ ?_ hK hos hgn
  · omega
  · intro args cls
    rfl
  · wrow_post

end
/-! these names, once taken, keep the library from laying twins of the head's own constants (their equations would make a compiled file of 290 MB) -/
theorem hd.tw18245042118932799458 : True := trivial
theorem hd.tw12901994302517312135 : True := trivial
theorem hd.tw3763122126050802206 : True := trivial
theorem hd.tw17429513623812275283 : True := trivial
theorem hd.tw212345690472687942 : True := trivial
theorem hd.tw125302361856450738 : True := trivial
theorem hd.tw13280443560766958183 : True := trivial
theorem hd.tw137786328141462057 : True := trivial
theorem hd.tw9258712216579463092 : True := trivial
theorem hd.tw1589133516308662214 : True := trivial
theorem hd.tw13534587687697041467 : True := trivial
theorem hd.tw7526368328331116154 : True := trivial
theorem hd.tw7891253978561527248 : True := trivial
theorem hd.tw940617070666608080 : True := trivial
theorem hd.tw14246236162039180721 : True := trivial
theorem hd.tw16091413853298234908 : True := trivial
theorem hd.tw3608708970678896270 : True := trivial
theorem hd.tw17930870258028551510 : True := trivial
theorem hd.tw7898215921889874393 : True := trivial
theorem hd.tw6014424301940151174 : True := trivial
theorem hd.tw3381375190539634487 : True := trivial
theorem hd.tw2263123870574935043 : True := trivial
theorem hd.tw4182648748547736412 : True := trivial
theorem hd.tw18300207936620678264 : True := trivial
theorem hd.tw15963624873386084050 : True := trivial
theorem hd.tw13483081372092288885 : True := trivial
theorem hd.tw4826046112637339144 : True := trivial
theorem hd.tw10947331860392259696 : True := trivial
theorem hd.tw9513423893830186035 : True := trivial
theorem hd.tw5247051413645994129 : True := trivial
theorem hd.tw14859038896228082724 : True := trivial
theorem hd.tw9908193460736022307 : True := trivial
theorem hd.tw17076082267592564974 : True := trivial
theorem hd.tw7494724483528729301 : True := trivial
theorem hd.tw13129650132239662433 : True := trivial
theorem hd.tw6636792957720756321 : True := trivial
theorem hd.tw17038178572684014812 : True := trivial
theorem hd.tw18176940659606848779 : True := trivial
theorem hd.tw15616948245753086127 : True := trivial
theorem hd.tw9210833815706959935 : True := trivial
theorem hd.tw14400467628812073631 : True := trivial
theorem hd.tw18358800413957953924 : True := trivial
theorem hd.tw7028611270464810887 : True := trivial
theorem hd.tw6755925336976613232 : True := trivial
theorem hd.tw12617484926136758311 : True := trivial
theorem hd.tw13840357560478945406 : True := trivial
theorem hd.tw11632984921778587759 : True := trivial
theorem hd.tw9557236495431379559 : True := trivial
theorem hd.tw5010264101278932077 : True := trivial
theorem hd.tw1197925565968671727 : True := trivial
theorem hd.tw2450686747263038406 : True := trivial
theorem hd.tw15759970867653108152 : True := trivial
theorem hd.tw7182994202766372144 : True := trivial
theorem hd.tw13011413612017729677 : True := trivial
theorem hd.tw12303475874559268600 : True := trivial
theorem hd.tw7175568609137494628 : True := trivial
theorem hd.tw16823583209533085739 : True := trivial
theorem hd.tw16919406825032445293 : True := trivial
theorem hd.tw14078009766183191694 : True := trivial
theorem hd.tw14984183105004643987 : True := trivial
theorem hd.tw511748877826530558 : True := trivial
theorem hd.tw1893913032611223051 : True := trivial
theorem hd.tw9087110039335098043 : True := trivial
theorem hd.tw8134915037123179040 : True := trivial
theorem hd.tw6531146844720864006 : True := trivial
theorem hd.tw1298254639083541195 : True := trivial
theorem hd.tw10643592516055977328 : True := trivial
theorem hd.tw8356816923877370021 : True := trivial
theorem hd.tw12480425521718506038 : True := trivial
theorem hd.tw1241404454085649124 : True := trivial
theorem hd.tw9155422001095189878 : True := trivial
theorem hd.tw12521463284412890351 : True := trivial
theorem hd.tw7525542149764818722 : True := trivial
theorem hd.tw18330183385023645277 : True := trivial
theorem hd.tw9045270278378291675 : True := trivial
theorem hd.tw10841399608879689956 : True := trivial
theorem hd.tw11054480109507316185 : True := trivial
theorem hd.tw8960069828448710407 : True := trivial
theorem hd.tw1712922718373300912 : True := trivial
theorem hd.tw7100430431845274806 : True := trivial
theorem hd.tw7854228177987924090 : True := trivial
theorem hd.tw10543509907540572799 : True := trivial
theorem hd.tw3694398316872202419 : True := trivial
theorem hd.tw14440960662653809013 : True := trivial
theorem hd.tw1820180628909398317 : True := trivial
theorem hd.tw13474097485772985973 : True := trivial
theorem hd.tw11249132867342737325 : True := trivial
theorem hd.tw16722109127936396110 : True := trivial
theorem hd.tw845060206244984605 : True := trivial
theorem hd.tw14444963742821833902 : True := trivial
theorem hd.tw3649758429140192277 : True := trivial
theorem hd.tw4730091804998409952 : True := trivial
theorem hd.tw9600117475790353255 : True := trivial
theorem hd.tw2101469004524951375 : True := trivial
theorem hd.tw10376703724636587151 : True := trivial
theorem hd.tw15042006015671813226 : True := trivial
theorem hd.tw6769732088879122475 : True := trivial
theorem hd.tw13001811119718631651 : True := trivial
theorem hd.tw7578210074245671484 : True := trivial
theorem hd.tw2930668341846507884 : True := trivial
theorem hd.tw7354087734392854552 : True := trivial
theorem hd.tw1043307727769730188 : True := trivial
theorem hd.tw13066319289922817542 : True := trivial
theorem hd.tw13155780701260043360 : True := trivial
theorem hd.tw15084132493965779093 : True := trivial
theorem hd.tw4578887807478078109 : True := trivial
theorem hd.tw16772102934027710169 : True := trivial
theorem hd.tw8881176148764397765 : True := trivial
theorem hd.tw14294344414604881677 : True := trivial
theorem hd.tw6374767894290048045 : True := trivial
theorem hd.tw10258225898301398825 : True := trivial
theorem hd.tw4159134105002834734 : True := trivial
theorem hd.tw4111692666942324129 : True := trivial
theorem hd.tw13747817723492736564 : True := trivial
theorem hd.tw6352655612330318208 : True := trivial
theorem hd.tw12614811148066621264 : True := trivial
theorem hd.tw3219085151875037572 : True := trivial
theorem hd.tw15615537253650120727 : True := trivial
theorem hd.tw1088296927520436173 : True := trivial
theorem hd.tw11389486352061984695 : True := trivial
theorem hd.tw17975533764899295144 : True := trivial
theorem hd.tw1299046323782801668 : True := trivial
theorem hd.tw6438293893037913957 : True := trivial
theorem hd.tw12331051067403766639 : True := trivial
theorem hd.tw11754176132448286083 : True := trivial
theorem hd.tw7598622570094877466 : True := trivial
theorem hd.tw7746578258024575070 : True := trivial
theorem hd.tw12602439190401603521 : True := trivial
theorem hd.tw16896567674234606475 : True := trivial
theorem hd.tw2167537188350426706 : True := trivial
theorem hd.tw8081886968326746073 : True := trivial
theorem hd.tw16698745307106531279 : True := trivial
theorem hd.tw17992175057805443440 : True := trivial
theorem hd.tw7296583596125217682 : True := trivial
theorem hd.tw162610821266807592 : True := trivial
theorem hd.tw242841246431481386 : True := trivial
theorem hd.tw4355604671862981090 : True := trivial
theorem hd.tw11283319371284918911 : True := trivial
theorem hd.tw10614716105012338702 : True := trivial
theorem hd.tw4068527845204499245 : True := trivial
theorem hd.tw7369741819223213686 : True := trivial
theorem hd.tw2708950531961675432 : True := trivial
theorem hd.tw18103420901670897651 : True := trivial
theorem hd.tw15179676742415161110 : True := trivial
theorem hd.tw185848376630758926 : True := trivial
theorem hd.tw8179070454071193570 : True := trivial
theorem hd.tw3443669649825651883 : True := trivial
theorem hd.tw8664936974563722654 : True := trivial
theorem hd.tw17420951861521290806 : True := trivial
theorem hd.tw1247026723315081023 : True := trivial
theorem hd.tw16456969618363192440 : True := trivial
theorem hd.tw1409312971732116557 : True := trivial
theorem hd.tw10491609206876299696 : True := trivial
theorem hd.tw2442259710966052079 : True := trivial
theorem hd.tw11801993109049149486 : True := trivial
theorem hd.tw9459050058782445324 : True := trivial
theorem hd.tw1848646778235469078 : True := trivial
theorem hd.tw16155205043701107222 : True := trivial
theorem hd.tw15967140613478806237 : True := trivial
theorem hd.tw12744807935193187038 : True := trivial
theorem hd.tw5987830557187376847 : True := trivial
theorem hd.tw1535757262459896012 : True := trivial
theorem hd.tw14176624398918483544 : True := trivial
theorem hd.tw17903497710992402801 : True := trivial
theorem hd.tw15064902949301533346 : True := trivial
theorem hd.tw5177414187049929029 : True := trivial
theorem hd.tw6882427118574961969 : True := trivial
theorem hd.tw3452082135128663414 : True := trivial
theorem hd.tw9330943631129107780 : True := trivial
theorem hd.tw10788059911547816233 : True := trivial
theorem hd.tw2739504486584576224 : True := trivial
theorem hd.tw1557243174674812401 : True := trivial
theorem hd.tw4725425184044842548 : True := trivial
theorem hd.tw651126834518081296 : True := trivial
theorem hd.tw1744074299117110578 : True := trivial
theorem hd.tw16502264421070913907 : True := trivial
theorem hd.tw1331086792558400476 : True := trivial
theorem hd.tw3704167492566942397 : True := trivial
theorem hd.tw14553816603554493358 : True := trivial
theorem hd.tw9345929723534960622 : True := trivial
theorem hd.tw14892549342360969540 : True := trivial
theorem hd.tw2999033326186475339 : True := trivial
theorem hd.tw13181700845877081190 : True := trivial
theorem hd.tw9406673726873002282 : True := trivial
theorem hd.tw12447509897640257713 : True := trivial
theorem hd.tw10955317050725887447 : True := trivial
theorem hd.tw5899666649113621702 : True := trivial
theorem hd.tw4479480825957296061 : True := trivial
theorem hd.tw4571360026077952820 : True := trivial
theorem hd.tw1865391376527767206 : True := trivial
theorem hd.tw5535567543195554156 : True := trivial
theorem hd.tw9060266659832965230 : True := trivial
theorem hd.tw15074197538484233485 : True := trivial
theorem hd.tw6663896369628448293 : True := trivial
theorem hd.tw15367242080415987702 : True := trivial
theorem hd.tw15384028259256376558 : True := trivial
theorem hd.tw16345102440705955213 : True := trivial
theorem hd.tw5167245352685981253 : True := trivial
theorem hd.tw8912348807662434688 : True := trivial
theorem hd.tw16742648372681657963 : True := trivial
theorem hd.tw5174551420813472067 : True := trivial
theorem hd.tw10170382586518783626 : True := trivial
theorem hd.tw15422856539912107476 : True := trivial
theorem hd.tw3759623122121258479 : True := trivial
theorem hd.tw100483095206116625 : True := trivial
theorem hd.tw12685813987229840507 : True := trivial
theorem hd.tw6407587892757256292 : True := trivial
theorem hd.tw16376525773666504680 : True := trivial
theorem hd.tw18131696352309475102 : True := trivial
theorem hd.tw15153279154761372571 : True := trivial
theorem hd.tw347974374584699710 : True := trivial
theorem hd.tw12232750017996463310 : True := trivial
theorem hd.tw12453114486196615683 : True := trivial
theorem hd.tw4971549296188076032 : True := trivial
theorem hd.tw7712595579559962911 : True := trivial
theorem hd.tw3878383114103592795 : True := trivial
theorem hd.tw13566260322249332789 : True := trivial
theorem hd.tw4878824753759274627 : True := trivial
theorem hd.tw5189956158058943387 : True := trivial
theorem hd.tw4282359134580295075 : True := trivial
theorem hd.tw5433107678231618845 : True := trivial
theorem hd.tw2394040479862359591 : True := trivial
theorem hd.tw10792051664901133789 : True := trivial
theorem hd.tw9271970288684553227 : True := trivial
theorem hd.tw11126320352707459272 : True := trivial
theorem hd.tw17112618468832355538 : True := trivial
theorem hd.tw7240586211207864342 : True := trivial
theorem hd.tw4702841417184801058 : True := trivial
theorem hd.tw4115565904173853331 : True := trivial
theorem hd.tw920214292312260371 : True := trivial
theorem hd.tw7657299143145469618 : True := trivial
theorem hd.tw4367455430839740993 : True := trivial
theorem hd.tw5148922909946612681 : True := trivial
theorem hd.tw7712819752767893495 : True := trivial
theorem hd.tw3008623586974134963 : True := trivial
theorem hd.tw13463106324228987060 : True := trivial
theorem hd.tw1413172679324656950 : True := trivial
theorem hd.tw5190246844813560578 : True := trivial
theorem hd.tw6924109203229866365 : True := trivial
theorem hd.tw5416991563250132298 : True := trivial
theorem hd.tw4027997239606545176 : True := trivial
theorem hd.tw16558851475291246605 : True := trivial
theorem hd.tw3364418463632694928 : True := trivial
theorem hd.tw2502866573005156581 : True := trivial
theorem hd.tw17217394356764393341 : True := trivial
theorem hd.tw17347436560843906493 : True := trivial
theorem hd.tw9427301549700849589 : True := trivial
theorem hd.tw11407884054146074569 : True := trivial
theorem hd.tw10216474801634566288 : True := trivial
theorem hd.tw6818987989461384207 : True := trivial
theorem hd.tw8538877666451538035 : True := trivial
theorem hd.tw4186180820073840449 : True := trivial
theorem hd.tw17258206423299326598 : True := trivial
theorem hd.tw14401202020516563356 : True := trivial
theorem hd.tw4126306136578151734 : True := trivial
theorem hd.tw15987713032478767096 : True := trivial
theorem hd.tw9215827820722605749 : True := trivial
theorem hd.tw11631869004601391166 : True := trivial
theorem hd.tw18368451091360184599 : True := trivial
theorem hd.tw11845739042510646663 : True := trivial
theorem hd.tw867598499069673859 : True := trivial
theorem hd.tw13458954166980676860 : True := trivial
theorem hd.tw16868993833207775613 : True := trivial
theorem hd.tw2040990291671593033 : True := trivial
theorem hd.tw3029179668187146391 : True := trivial
theorem hd.tw16357263729072622229 : True := trivial
theorem hd.tw17948085552500728524 : True := trivial
theorem hd.tw6646985988748340704 : True := trivial
theorem hd.tw17491317419825422843 : True := trivial
theorem hd.tw17143205804819765802 : True := trivial
theorem hd.tw11917015161858427179 : True := trivial
theorem hd.tw13642289790063256904 : True := trivial
theorem hd.tw14151535006965253332 : True := trivial
theorem hd.tw7850187754069100156 : True := trivial
theorem hd.tw6669269137521125552 : True := trivial
theorem hd.tw6079173187612997037 : True := trivial
theorem hd.tw13096734082719676321 : True := trivial
theorem hd.tw14103535550066685397 : True := trivial
theorem hd.tw5318216170032084099 : True := trivial
theorem hd.tw12565835363266740329 : True := trivial
theorem hd.tw5850991567925798318 : True := trivial
theorem hd.tw14205177575709318024 : True := trivial
theorem hd.tw15683763237869141255 : True := trivial
theorem hd.tw4049167362943961905 : True := trivial
theorem hd.tw18095200977026478895 : True := trivial
theorem hd.tw1191670712832166235 : True := trivial
theorem hd.tw6264232113106981867 : True := trivial
theorem hd.tw16037735763661986305 : True := trivial
theorem hd.tw189712035060473897 : True := trivial
theorem hd.tw3530705653197291679 : True := trivial
theorem hd.tw5715356086224469760 : True := trivial
theorem hd.tw17577478241444706838 : True := trivial
theorem hd.tw12268275109542032366 : True := trivial
theorem hd.tw14598272352848978880 : True := trivial
theorem hd.tw16171809288044610508 : True := trivial
theorem hd.tw4581847759332874082 : True := trivial
theorem hd.tw8044012406986999415 : True := trivial
theorem hd.tw7927469264209771579 : True := trivial
theorem hd.tw15103106377680225435 : True := trivial
theorem hd.tw8934143017859847078 : True := trivial
theorem hd.tw1699103778626983548 : True := trivial
theorem hd.tw8683856772340465682 : True := trivial
theorem hd.tw8652628183442184457 : True := trivial
theorem hd.tw13828106393651249627 : True := trivial
theorem hd.tw5366084841770067474 : True := trivial
theorem hd.tw2304311442786299043 : True := trivial
theorem hd.tw12704988097186499811 : True := trivial
theorem hd.tw11595982170579460384 : True := trivial
theorem hd.tw8428860471423672150 : True := trivial
theorem hd.tw1847840615245081061 : True := trivial
theorem hd.tw7941745277869089046 : True := trivial
theorem hd.tw2001351230973187099 : True := trivial
theorem hd.tw14683707025165767436 : True := trivial
theorem hd.tw1643121930917553208 : True := trivial
theorem hd.tw3660579746685279459 : True := trivial
theorem hd.tw6804821044290156842 : True := trivial
theorem hd.tw4990156530697904881 : True := trivial
theorem hd.tw15634565183472343292 : True := trivial
theorem hd.tw5036846961687405229 : True := trivial
theorem hd.tw17312975722139092705 : True := trivial
theorem hd.tw14667805832236412624 : True := trivial
theorem hd.tw18439511094173506614 : True := trivial
theorem hd.tw4299596416071116603 : True := trivial
theorem hd.tw9048539425550374019 : True := trivial
theorem hd.tw4856431653887292112 : True := trivial
theorem hd.tw5873113503399164460 : True := trivial
theorem hd.tw17252143746492648416 : True := trivial
theorem hd.tw2247246513732829436 : True := trivial
theorem hd.tw16211521421427940678 : True := trivial
theorem hd.tw14969688514271112891 : True := trivial
theorem hd.tw15527848837575444561 : True := trivial
theorem hd.tw2799067240506288376 : True := trivial
theorem hd.tw4946210868454251104 : True := trivial
theorem hd.tw10781468475247234061 : True := trivial
theorem hd.tw7006195865600381663 : True := trivial
theorem hd.tw5608270528595127837 : True := trivial
theorem hd.tw17066044127408595049 : True := trivial
theorem hd.tw15910714762333108613 : True := trivial
theorem hd.tw3919010098100093602 : True := trivial
theorem hd.tw1600037746751723098 : True := trivial
theorem hd.tw16649331688326792143 : True := trivial
theorem hd.tw16259696140248634718 : True := trivial
theorem hd.tw11912922877643110818 : True := trivial
theorem hd.tw9854592784775465947 : True := trivial
theorem hd.tw956962677268122417 : True := trivial
theorem hd.tw2616952524820836436 : True := trivial
theorem hd.tw11778180911958503814 : True := trivial
theorem hd.tw12611767792052310623 : True := trivial
theorem hd.tw13994979335412520660 : True := trivial
theorem hd.tw15992342658441690333 : True := trivial
theorem hd.tw8112040973832200146 : True := trivial
theorem hd.tw7512474625130614241 : True := trivial
theorem hd.tw10784824025267889561 : True := trivial
theorem hd.tw10012880186880212623 : True := trivial
theorem hd.tw8197050154876552520 : True := trivial
theorem hd.tw4086058157674990017 : True := trivial
theorem hd.tw15677629932584476913 : True := trivial
theorem hd.tw13770079208771991547 : True := trivial
theorem hd.tw4523669819894539328 : True := trivial
theorem hd.tw2114630138375439770 : True := trivial
theorem hd.tw16443024508289211202 : True := trivial
theorem hd.tw8671608845466749128 : True := trivial
theorem hd.tw880018294065282608 : True := trivial
theorem hd.tw758273949599710562 : True := trivial
theorem hd.tw4780371949962762201 : True := trivial
theorem hd.tw2603259988358896889 : True := trivial
theorem hd.tw909924351560934390 : True := trivial
theorem hd.tw8531993380330477603 : True := trivial
theorem hd.tw11898664097942606779 : True := trivial
theorem hd.tw1097998534492414930 : True := trivial
theorem hd.tw1118553966540926140 : True := trivial
theorem hd.tw10787125048147943196 : True := trivial
theorem hd.tw113833337584455834 : True := trivial
theorem hd.tw15856727013471470956 : True := trivial
theorem hd.tw2494756979846338387 : True := trivial
theorem hd.tw9012836324853574702 : True := trivial
theorem hd.tw7080932558258925280 : True := trivial
theorem hd.tw5629675986466331604 : True := trivial
theorem hd.tw5842185385456739251 : True := trivial
theorem hd.tw12243682255763564212 : True := trivial
theorem hd.tw15837987909243819085 : True := trivial
theorem hd.tw3922637787740509324 : True := trivial
theorem hd.tw9763420282994701918 : True := trivial
theorem hd.tw10738003575532504788 : True := trivial
theorem hd.tw7031273417212677730 : True := trivial
theorem hd.tw18343703819029505601 : True := trivial
theorem hd.tw10905682514733158466 : True := trivial
theorem hd.tw12394076208661396346 : True := trivial
theorem hd.tw10905181550472923540 : True := trivial
theorem hd.tw9983964734214183352 : True := trivial
theorem hd.tw6320253292602491972 : True := trivial
theorem hd.tw13365295217650922812 : True := trivial
theorem hd.tw1936894748134917147 : True := trivial
theorem hd.tw8770205317985620760 : True := trivial
theorem hd.tw14294001040229213422 : True := trivial
theorem hd.tw12023040214023829324 : True := trivial
theorem hd.tw16853341256802265648 : True := trivial
theorem hd.tw14029546391885035639 : True := trivial
theorem hd.tw6305734824756694309 : True := trivial
theorem hd.tw13919464512627920130 : True := trivial
theorem hd.tw3196170801527574987 : True := trivial
theorem hd.tw16473244170626142550 : True := trivial
theorem hd.tw102014493982917126 : True := trivial
theorem hd.tw10834780440838970164 : True := trivial
theorem hd.tw5378308252288859171 : True := trivial
theorem hd.tw250903467453971090 : True := trivial
theorem hd.tw18321552122766947510 : True := trivial
theorem hd.tw16138627921320673191 : True := trivial
theorem hd.tw10904933031377857372 : True := trivial
theorem hd.tw1603739661141634737 : True := trivial
theorem hd.tw13903934854276604550 : True := trivial
theorem hd.tw10819331528351526247 : True := trivial
theorem hd.tw17628472586750557451 : True := trivial
theorem hd.tw14040608126747316905 : True := trivial
theorem hd.tw11136197038861592535 : True := trivial
theorem hd.tw4851647983119433812 : True := trivial
theorem hd.tw18166333605607142505 : True := trivial
theorem hd.tw1954109241102656831 : True := trivial
theorem hd.tw17588044629489971554 : True := trivial
theorem hd.tw10273187271170590260 : True := trivial
theorem hd.tw3405361230339686725 : True := trivial
theorem hd.tw11841097893285799298 : True := trivial
theorem hd.tw6123773746684550334 : True := trivial
theorem hd.tw13866372431405929976 : True := trivial
theorem hd.tw7289634563603522867 : True := trivial
theorem hd.tw7914949630228597729 : True := trivial
theorem hd.tw2562236817408797766 : True := trivial
theorem hd.tw2822637339304341266 : True := trivial
theorem hd.tw13220430256171166289 : True := trivial
theorem hd.tw9312999139381119592 : True := trivial
theorem hd.tw17330945745186091897 : True := trivial
theorem hd.tw6372862494175223470 : True := trivial
theorem hd.tw5130813555471234732 : True := trivial
theorem hd.tw155142512498542641 : True := trivial
theorem hd.tw13132618709999183898 : True := trivial
theorem hd.tw3418235910006150233 : True := trivial
theorem hd.tw17919194246423945575 : True := trivial
theorem hd.tw2323474266016966308 : True := trivial
theorem hd.tw14457593812595234344 : True := trivial
theorem hd.tw17895171251205151618 : True := trivial
theorem hd.tw14579804019780415049 : True := trivial
theorem hd.tw16640546478005224243 : True := trivial
theorem hd.tw4225703048834024713 : True := trivial
theorem hd.tw307737655149646647 : True := trivial
theorem hd.tw2658526732547218105 : True := trivial
theorem hd.tw11224897151958998736 : True := trivial
theorem hd.tw663384727985864361 : True := trivial
theorem hd.tw13562760996464443880 : True := trivial
theorem hd.tw5282504435634884242 : True := trivial
theorem hd.tw17989097746536338734 : True := trivial
theorem hd.tw2799716289819351777 : True := trivial
theorem hd.tw7547452568850923285 : True := trivial
theorem hd.tw17471934795394947791 : True := trivial
theorem hd.tw9440118169554580438 : True := trivial
theorem hd.tw4654797750381630734 : True := trivial
theorem hd.tw3890083515106143593 : True := trivial
theorem hd.tw4735155535324382492 : True := trivial
theorem hd.tw14137390275340422267 : True := trivial
theorem hd.tw7698358502638924378 : True := trivial
theorem hd.tw3571134770919094901 : True := trivial
theorem hd.tw9077708301081682751 : True := trivial
theorem hd.tw14685462170515437407 : True := trivial
theorem hd.tw5716766192118558609 : True := trivial
theorem hd.tw6780557218761844654 : True := trivial
theorem hd.tw1335065189686863947 : True := trivial
theorem hd.tw11638043884434779313 : True := trivial
theorem hd.tw13285133528070534704 : True := trivial
theorem hd.tw16178712458983371728 : True := trivial
theorem hd.tw14560493823538711346 : True := trivial
theorem hd.tw13217827037086042188 : True := trivial
theorem hd.tw13478424178397462001 : True := trivial
theorem hd.tw2808349399557158395 : True := trivial
theorem hd.tw12418435599462062936 : True := trivial
theorem hd.tw16826083622388986153 : True := trivial
theorem hd.tw12936449754285732098 : True := trivial
theorem hd.tw11729958736954745289 : True := trivial
theorem hd.tw10604169790165778682 : True := trivial
theorem hd.tw5464280966869935822 : True := trivial
theorem hd.tw15043168886218598503 : True := trivial
theorem hd.tw7489763959799892387 : True := trivial
theorem hd.tw4074112789689628901 : True := trivial
theorem hd.tw1359830224848277088 : True := trivial
theorem hd.tw2608437505485318709 : True := trivial
theorem hd.tw5054737718236178183 : True := trivial
theorem hd.tw17377529257436501650 : True := trivial
theorem hd.tw17088047866570459193 : True := trivial
theorem hd.tw12727495553239364174 : True := trivial
theorem hd.tw9390866547671247325 : True := trivial
theorem hd.tw6278647508926252785 : True := trivial
theorem hd.tw6412770499399676944 : True := trivial
theorem hd.tw732345407407602841 : True := trivial
theorem hd.tw5289708365253275695 : True := trivial
theorem hd.tw17491280204586788870 : True := trivial
theorem hd.tw2960447077969926378 : True := trivial
theorem hd.tw16858285156579221889 : True := trivial
theorem hd.tw10934634478434655930 : True := trivial
theorem hd.tw6547078798241139092 : True := trivial
theorem hd.tw12070654863422294720 : True := trivial
theorem hd.tw5388632664720090651 : True := trivial
theorem hd.tw8801323125487838256 : True := trivial
theorem hd.tw13532847315355080253 : True := trivial
theorem hd.tw128412058910260475 : True := trivial
theorem hd.tw701957132916908730 : True := trivial
theorem hd.tw13855946660403688772 : True := trivial
theorem hd.tw9617658007855726926 : True := trivial
theorem hd.tw16635604280276938560 : True := trivial
theorem hd.tw4478964076566166474 : True := trivial
theorem hd.tw14810379563594542694 : True := trivial
theorem hd.tw4292457097857839397 : True := trivial
theorem hd.tw7379015992945566340 : True := trivial
theorem hd.tw7815354588672045779 : True := trivial
theorem hd.tw12578441467969060316 : True := trivial
theorem hd.tw4478166936697009375 : True := trivial
theorem hd.tw17542962492245011380 : True := trivial
theorem hd.tw9702936160620672325 : True := trivial
theorem hd.tw7640094616464845771 : True := trivial
theorem hd.tw8273930003744585626 : True := trivial
theorem hd.tw9467313397243273497 : True := trivial
theorem hd.tw9627790493946171768 : True := trivial
theorem hd.tw15033227074091944939 : True := trivial
theorem hd.tw11713075325732132258 : True := trivial
theorem hd.tw13289513938125300765 : True := trivial
theorem hd.tw2042874687063273074 : True := trivial
theorem hd.tw6957150274394394060 : True := trivial
theorem hd.tw1689377841213677179 : True := trivial
theorem hd.tw3496965988886986938 : True := trivial
theorem hd.tw9864973744126774698 : True := trivial
theorem hd.tw4272726840584523970 : True := trivial
theorem hd.tw5549315172176941698 : True := trivial
theorem hd.tw6442067068224118133 : True := trivial
theorem hd.tw12414669353804360901 : True := trivial
theorem hd.tw3920623390966001496 : True := trivial
theorem hd.tw17711083657039698284 : True := trivial
theorem hd.tw5505005885091257285 : True := trivial
theorem hd.tw10933677585905718993 : True := trivial
theorem hd.tw3941438180925939637 : True := trivial
theorem hd.tw6196171512934965099 : True := trivial
theorem hd.tw9449672872311958731 : True := trivial
theorem hd.tw11194669416261925730 : True := trivial
theorem hd.tw224026152562611165 : True := trivial
theorem hd.tw2448417245163862455 : True := trivial
theorem hd.tw14586822029978311858 : True := trivial
theorem hd.tw3646829019195819677 : True := trivial
theorem hd.tw12459740579856956213 : True := trivial
theorem hd.tw3386092968808520798 : True := trivial
theorem hd.tw10531373872144210542 : True := trivial
theorem hd.tw10210669037155785340 : True := trivial
theorem hd.tw12669576375859063689 : True := trivial
theorem hd.tw14006173549557618073 : True := trivial
theorem hd.tw6060742912462422084 : True := trivial
theorem hd.tw16641143254114907239 : True := trivial
theorem hd.tw8724965967928493813 : True := trivial
theorem hd.tw13051953538815563581 : True := trivial
theorem hd.tw13363553139645760527 : True := trivial
theorem hd.tw11465210709893060100 : True := trivial
theorem hd.tw17312999752573914782 : True := trivial
theorem hd.tw15946356160694317329 : True := trivial
theorem hd.tw3480954088277226078 : True := trivial
theorem hd.tw14060154772996877548 : True := trivial
theorem hd.tw9430268157657104642 : True := trivial
theorem hd.tw10678649693572172417 : True := trivial
theorem hd.tw6761669909254768831 : True := trivial
theorem hd.tw16477043939570097188 : True := trivial
theorem hd.tw10583446816852156582 : True := trivial
theorem hd.tw1448358952932078338 : True := trivial
theorem hd.tw4402725079659364252 : True := trivial
theorem hd.tw7098430227860910225 : True := trivial
theorem hd.tw11162318198679636149 : True := trivial
theorem hd.tw14776966858535155947 : True := trivial
theorem hd.tw5643178794243155062 : True := trivial
theorem hd.tw10944956837784636368 : True := trivial
theorem hd.tw6819123309680001836 : True := trivial
theorem hd.tw11402939732021071671 : True := trivial
theorem hd.tw6308581086252854402 : True := trivial
theorem hd.tw6906073325868019850 : True := trivial
theorem hd.tw16639802674150441104 : True := trivial
theorem hd.tw12870888531099404533 : True := trivial
theorem hd.tw16914215919094292968 : True := trivial
theorem hd.tw11893437276241958245 : True := trivial
theorem hd.tw6697089970055633809 : True := trivial
theorem hd.tw701787995468756871 : True := trivial
theorem hd.tw7880807054014371918 : True := trivial
theorem hd.tw5486487638281291605 : True := trivial
theorem hd.tw5201384275714778543 : True := trivial
theorem hd.tw17992873397187703194 : True := trivial
theorem hd.tw10424393626065333798 : True := trivial
theorem hd.tw1379335367625716243 : True := trivial
theorem hd.tw442638132926106271 : True := trivial
theorem hd.tw2505046432360240130 : True := trivial
theorem hd.tw3429492842335990350 : True := trivial
theorem hd.tw13293453174229064190 : True := trivial
theorem hd.tw11852641145169952659 : True := trivial
theorem hd.tw16052320808349706082 : True := trivial
theorem hd.tw9430667961914135727 : True := trivial
theorem hd.tw16464424236575238572 : True := trivial
theorem hd.tw7573478926670427865 : True := trivial
theorem hd.tw3109861748172591687 : True := trivial
theorem hd.tw14914937398881237230 : True := trivial
theorem hd.tw16759147789766475008 : True := trivial
theorem hd.tw9783614193127449063 : True := trivial
theorem hd.tw6883898783123881946 : True := trivial
theorem hd.tw3789350110615891812 : True := trivial
theorem hd.tw16257038226119295666 : True := trivial
theorem hd.tw6276725880618359904 : True := trivial
theorem hd.tw8381844023166312768 : True := trivial
theorem hd.tw1304154334995124768 : True := trivial
theorem hd.tw4948343613671549106 : True := trivial
theorem hd.tw8228950375871286339 : True := trivial
theorem hd.tw5635641802508607975 : True := trivial
theorem hd.tw12949589719889679912 : True := trivial
theorem hd.tw15152743547302097792 : True := trivial
theorem hd.tw12598724348716800887 : True := trivial
theorem hd.tw5781342201191254626 : True := trivial
theorem hd.tw8898355551111435312 : True := trivial
theorem hd.tw561391293025646643 : True := trivial
theorem hd.tw14478148883734587675 : True := trivial
theorem hd.tw11915594877312485397 : True := trivial
theorem hd.tw16301592386811335294 : True := trivial
theorem hd.tw15630680890609703042 : True := trivial
theorem hd.tw16920754564084929960 : True := trivial
theorem hd.tw7610815399733428385 : True := trivial
theorem hd.tw16149640692961023503 : True := trivial
theorem hd.tw15615420239508185596 : True := trivial
theorem hd.tw14438451200097066615 : True := trivial
theorem hd.tw6019021122589006684 : True := trivial
theorem hd.tw7410691917177469808 : True := trivial
theorem hd.tw825126770350376351 : True := trivial
theorem hd.tw978945382295711627 : True := trivial
theorem hd.tw13347369733751428629 : True := trivial
theorem hd.tw6163730186589392659 : True := trivial
theorem hd.tw5902613922787404954 : True := trivial
theorem hd.tw12647368939536790636 : True := trivial
theorem hd.tw8773699223549846113 : True := trivial
theorem hd.tw17649441919526076750 : True := trivial
theorem hd.tw11652457597714270106 : True := trivial
theorem hd.tw1939978651307754801 : True := trivial
theorem hd.tw5362516397382645915 : True := trivial
theorem hd.tw7872162285098387286 : True := trivial
theorem hd.tw991583007596301734 : True := trivial
theorem hd.tw3312855554403267510 : True := trivial
theorem hd.tw17034541987677670899 : True := trivial
theorem hd.tw11663481321943121269 : True := trivial
theorem hd.tw6990203504111849199 : True := trivial
theorem hd.tw6767318904944593275 : True := trivial
theorem hd.tw7752767780024739350 : True := trivial
theorem hd.tw1194904439430580092 : True := trivial
theorem hd.tw395138700845864316 : True := trivial
theorem hd.tw17054507655720011243 : True := trivial
theorem hd.tw15618049606547972131 : True := trivial
theorem hd.tw15948780112781908787 : True := trivial
theorem hd.tw9657781627882305391 : True := trivial
theorem hd.tw17070941380808615275 : True := trivial
theorem hd.tw17570734847185409352 : True := trivial
theorem hd.tw4363365295628954845 : True := trivial
theorem hd.tw7644636733232180493 : True := trivial
theorem hd.tw3722166409189360004 : True := trivial
theorem hd.tw1781861727890032366 : True := trivial
theorem hd.tw3434918251397683217 : True := trivial
theorem hd.tw16795040122137113940 : True := trivial
theorem hd.tw18252017834820373320 : True := trivial
theorem hd.tw15381450162410889989 : True := trivial
theorem hd.tw8151903124980380684 : True := trivial
theorem hd.tw5292301768408028288 : True := trivial
theorem hd.tw432457690288141553 : True := trivial
theorem hd.tw7540741092611519060 : True := trivial
theorem hd.tw8479784124755550697 : True := trivial
theorem hd.tw12092154237167983948 : True := trivial
theorem hd.tw8457440626546761165 : True := trivial
theorem hd.tw3241458686731973266 : True := trivial
theorem hd.tw1439246655266547700 : True := trivial
theorem hd.tw518976864732996251 : True := trivial
theorem hd.tw15199589371867527261 : True := trivial
theorem hd.tw14673209030070457562 : True := trivial
theorem hd.tw10203026625882799534 : True := trivial
theorem hd.tw10102539355485613405 : True := trivial
theorem hd.tw9842699097658496709 : True := trivial
theorem hd.tw2000490053193787569 : True := trivial
theorem hd.tw6824622198901579176 : True := trivial
theorem hd.tw11256106856564762260 : True := trivial
theorem hd.tw313027258313007627 : True := trivial
theorem hd.tw1208734638264122097 : True := trivial
theorem hd.tw16156708551869547534 : True := trivial
theorem hd.tw6848782300941138395 : True := trivial
theorem hd.tw17183224562656869120 : True := trivial
theorem hd.tw15795242993344767468 : True := trivial
theorem hd.tw8811097733284410319 : True := trivial
theorem hd.tw14745743045033390146 : True := trivial
theorem hd.tw18219297243305740317 : True := trivial
theorem hd.tw6545403380812914513 : True := trivial
theorem hd.tw13092906067662860646 : True := trivial
theorem hd.tw8351282476255451920 : True := trivial
theorem hd.tw11109741339103130912 : True := trivial
theorem hd.tw4383666589626881386 : True := trivial
theorem hd.tw9013056391748086436 : True := trivial
theorem hd.tw3504079246686126755 : True := trivial
theorem hd.tw1563692795949630186 : True := trivial
theorem hd.tw6877226645827823821 : True := trivial
theorem hd.tw5360435025570183010 : True := trivial
theorem hd.tw8684328023851190084 : True := trivial
theorem hd.tw6469175993241445255 : True := trivial
theorem hd.tw15529170255622000948 : True := trivial
theorem hd.tw12591134339009171964 : True := trivial
theorem hd.tw6164396464334811476 : True := trivial
theorem hd.tw1684042547275628529 : True := trivial
theorem hd.tw7519716089354478335 : True := trivial
theorem hd.tw18159583340796038533 : True := trivial
theorem hd.tw6184460063843016694 : True := trivial
theorem hd.tw14623610509376584727 : True := trivial
theorem hd.tw3350930974749635488 : True := trivial
theorem hd.tw11024222330075796079 : True := trivial
theorem hd.tw12676414471582705871 : True := trivial
theorem hd.tw17047115858639842297 : True := trivial
theorem hd.tw13531707123254989501 : True := trivial
theorem hd.tw11434409384045074295 : True := trivial
theorem hd.tw7185752278333246451 : True := trivial
theorem hd.tw14721871892148092309 : True := trivial
theorem hd.tw15595854959937240912 : True := trivial
theorem hd.tw11589725331034447131 : True := trivial
theorem hd.tw12579596248316191183 : True := trivial
theorem hd.tw14328484209623677503 : True := trivial
theorem hd.tw15826014557914729019 : True := trivial
theorem hd.tw6181573660694698118 : True := trivial
theorem hd.tw3698263348304958635 : True := trivial
theorem hd.tw6578402527460240241 : True := trivial
theorem hd.tw6115762422951442106 : True := trivial
theorem hd.tw3484992998616243462 : True := trivial
theorem hd.tw5135410709514514960 : True := trivial
theorem hd.tw5567388512258382067 : True := trivial
theorem hd.tw15852365999677673905 : True := trivial
theorem hd.tw6868836192036940282 : True := trivial
theorem hd.tw9277588360372424766 : True := trivial
theorem hd.tw6449127861642672459 : True := trivial
theorem hd.tw5667655126489319660 : True := trivial
theorem hd.tw2284436838669742495 : True := trivial
theorem hd.tw2845207389951388047 : True := trivial
theorem hd.tw656455966557771466 : True := trivial
theorem hd.tw8716120427605611371 : True := trivial
theorem hd.tw5732804406350252772 : True := trivial
theorem hd.tw18160293313031310949 : True := trivial
theorem hd.tw12173100003817136821 : True := trivial
theorem hd.tw6998783941825042932 : True := trivial
theorem hd.tw15790720579355451973 : True := trivial
theorem hd.tw10603584201595350602 : True := trivial
theorem hd.tw2457190517430149469 : True := trivial
theorem hd.tw7752569895197466512 : True := trivial
theorem hd.tw12832683148521936107 : True := trivial
theorem hd.tw2139204274930982770 : True := trivial
theorem hd.tw3644008723964970423 : True := trivial
theorem hd.tw12769127236821124696 : True := trivial
theorem hd.tw15389965777483919546 : True := trivial
theorem hd.tw5021546742003373373 : True := trivial
theorem hd.tw12642813592246648485 : True := trivial
theorem hd.tw12588582704262371052 : True := trivial
theorem hd.tw10507497572311344420 : True := trivial
theorem hd.tw6800881396052196260 : True := trivial
theorem hd.tw17001982702790524580 : True := trivial
theorem hd.tw9990345226319884068 : True := trivial
theorem hd.tw13931416462566266981 : True := trivial
theorem hd.tw8770659054964912022 : True := trivial
theorem hd.tw1011335219593555734 : True := trivial
theorem hd.tw10172710858053320305 : True := trivial
theorem hd.tw8450674356893351874 : True := trivial
theorem hd.tw15213948185873263833 : True := trivial
theorem hd.tw16717124610585707100 : True := trivial
theorem hd.tw11587034568685482758 : True := trivial
theorem hd.tw4642405928176397000 : True := trivial
theorem hd.tw10465514089279642386 : True := trivial
theorem hd.tw12393119488966705847 : True := trivial
theorem hd.tw3451239065008710300 : True := trivial
theorem hd.tw12337632362937886050 : True := trivial
theorem hd.tw16064382804478563927 : True := trivial
theorem hd.tw17772917993097084435 : True := trivial
theorem hd.tw16957190012819468567 : True := trivial
theorem hd.tw10098268173465320503 : True := trivial
theorem hd.tw12561155100871721849 : True := trivial
theorem hd.tw10737458330869947321 : True := trivial
theorem hd.tw7317836474542784337 : True := trivial
theorem hd.tw4125931394999656194 : True := trivial
theorem hd.tw13518370688599389936 : True := trivial
theorem hd.tw14817486215969520457 : True := trivial
theorem hd.tw5927567313105069670 : True := trivial
theorem hd.tw13064122474441708322 : True := trivial
theorem hd.tw10844753989422098599 : True := trivial
theorem hd.tw10845626234925267891 : True := trivial
theorem hd.tw17696971302532935780 : True := trivial
theorem hd.tw5978321128707920903 : True := trivial
theorem hd.tw5322579261384874668 : True := trivial
theorem hd.tw7382370116671421104 : True := trivial
theorem hd.tw6295535725891239091 : True := trivial
theorem hd.tw18185175575083235020 : True := trivial
theorem hd.tw2598446214317162929 : True := trivial
theorem hd.tw6838551448383532254 : True := trivial
theorem hd.tw6418103052136555383 : True := trivial
theorem hd.tw2595994805191909183 : True := trivial
theorem hd.tw617508947420966582 : True := trivial
theorem hd.tw10949625832625181284 : True := trivial
theorem hd.tw8945485805214734075 : True := trivial
theorem hd.tw1184127607605381967 : True := trivial
theorem hd.tw424627922949020093 : True := trivial
theorem hd.tw11672842613191775419 : True := trivial
theorem hd.tw3173010612589774626 : True := trivial
theorem hd.tw17177331786930743035 : True := trivial
theorem hd.tw17650839729002327288 : True := trivial
theorem hd.tw10185585757203709587 : True := trivial
theorem hd.tw15427206886491885616 : True := trivial
theorem hd.tw8235409398405932684 : True := trivial
theorem hd.tw13638418597567726942 : True := trivial
theorem hd.tw17655025648336401564 : True := trivial
theorem hd.tw18293851220164018083 : True := trivial
theorem hd.tw6830512106363814048 : True := trivial
theorem hd.tw13277076834127875243 : True := trivial
theorem hd.tw4958948430592982816 : True := trivial
theorem hd.tw17668637344460488510 : True := trivial
theorem hd.tw4172343393113369950 : True := trivial
theorem hd.tw5677198662683936330 : True := trivial
theorem hd.tw9499510787657705874 : True := trivial
theorem hd.tw13321331477185743149 : True := trivial
theorem hd.tw11011131195910976488 : True := trivial
theorem hd.tw11319097763535126812 : True := trivial
theorem hd.tw9228397985900620932 : True := trivial
theorem hd.tw4065347644161347641 : True := trivial
theorem hd.tw8015326511298524721 : True := trivial
theorem hd.tw3309697970292668127 : True := trivial
theorem hd.tw3816877163431070358 : True := trivial
theorem hd.tw528294856998629103 : True := trivial
theorem hd.tw2489000522355961661 : True := trivial
theorem hd.tw11953376511379268794 : True := trivial
theorem hd.tw6879831473291441079 : True := trivial
theorem hd.tw17950676927832955104 : True := trivial
theorem hd.tw16302227732802510677 : True := trivial
theorem hd.tw9555612238305686254 : True := trivial
theorem hd.tw14906377314874228009 : True := trivial
theorem hd.tw12058812876911547015 : True := trivial
theorem hd.tw1580110805410547442 : True := trivial
theorem hd.tw9533747618267967006 : True := trivial
theorem hd.tw5009564483982726761 : True := trivial
theorem hd.tw9170477692918782315 : True := trivial
theorem hd.tw7355570028127101125 : True := trivial
theorem hd.tw10763509664835889504 : True := trivial
theorem hd.tw2068664650715991707 : True := trivial
theorem hd.tw10743916045514856203 : True := trivial
theorem hd.tw13409441903868389331 : True := trivial
theorem hd.tw1425423193147277237 : True := trivial
theorem hd.tw9577689765879766989 : True := trivial
theorem hd.tw7691918140598264929 : True := trivial
theorem hd.tw7120233287515763914 : True := trivial
theorem hd.tw17574625026820762457 : True := trivial
theorem hd.tw11709330566771433103 : True := trivial
theorem hd.tw7191455744419660376 : True := trivial
theorem hd.tw3218096787892578837 : True := trivial
theorem hd.tw6759412095888398321 : True := trivial
theorem hd.tw14567429538950270057 : True := trivial
theorem hd.tw16587392273704687506 : True := trivial
theorem hd.tw9566141503761928105 : True := trivial
theorem hd.tw14157391046456589319 : True := trivial
theorem hd.tw503842035214351869 : True := trivial
theorem hd.tw17042034404087940706 : True := trivial
theorem hd.tw17562767543260142214 : True := trivial
theorem hd.tw2391449824757734642 : True := trivial
theorem hd.tw3911173418732280352 : True := trivial
theorem hd.tw17876089906941426215 : True := trivial
theorem hd.tw6423634429210846174 : True := trivial
theorem hd.tw14743440263598761229 : True := trivial
theorem hd.tw1005483496087919985 : True := trivial
theorem hd.tw37099724090138251 : True := trivial
theorem hd.tw15368132723985388332 : True := trivial
theorem hd.tw7174315439194531881 : True := trivial
theorem hd.tw13609717118414637909 : True := trivial
theorem hd.tw6820862383352777685 : True := trivial
theorem hd.tw7793673504863384051 : True := trivial
theorem hd.tw1129884963351977449 : True := trivial
theorem hd.tw4377701919642642989 : True := trivial
theorem hd.tw500953250457666378 : True := trivial
theorem hd.tw4210835263042620578 : True := trivial
theorem hd.tw15673258824015622330 : True := trivial
theorem hd.tw11251137523995926341 : True := trivial
theorem hd.tw16157073509204512506 : True := trivial
theorem hd.tw17495340751864218003 : True := trivial
theorem hd.tw15675198926951892251 : True := trivial
theorem hd.tw1013155817946168525 : True := trivial
theorem hd.tw3876449026389394717 : True := trivial
theorem hd.tw11364443708160879001 : True := trivial
theorem hd.tw12239354291974867115 : True := trivial
theorem hd.tw9262713555522148398 : True := trivial
theorem hd.tw7261450039545342454 : True := trivial
theorem hd.tw1836080755315867724 : True := trivial
theorem hd.tw11905163887095721015 : True := trivial
theorem hd.tw3940546777539579641 : True := trivial
theorem hd.tw13937860266046166849 : True := trivial
theorem hd.tw12254263087357419629 : True := trivial
theorem hd.tw8965841893048198262 : True := trivial
theorem hd.tw13047593935725612058 : True := trivial
theorem hd.tw16945582573551092051 : True := trivial
theorem hd.tw9184186324627900627 : True := trivial
theorem hd.tw3969467460574380271 : True := trivial
theorem hd.tw15591429051563716170 : True := trivial
theorem hd.tw11399449904127653305 : True := trivial
theorem hd.tw10195207025132199040 : True := trivial
theorem hd.tw11942693397608355085 : True := trivial
theorem hd.tw7579377964693751086 : True := trivial
theorem hd.tw17325209927041812611 : True := trivial
theorem hd.tw16547865195752855329 : True := trivial
theorem hd.tw17843490464661113860 : True := trivial
theorem hd.tw14143348200573808938 : True := trivial
theorem hd.tw7621723926649502420 : True := trivial
theorem hd.tw5983496337302601536 : True := trivial
theorem hd.tw12070051907170230399 : True := trivial
theorem hd.tw12861998865439983172 : True := trivial
theorem hd.tw12471131715012749390 : True := trivial
theorem hd.tw9850052858527491113 : True := trivial
theorem hd.tw12940713784782232206 : True := trivial
theorem hd.tw6506366617586733335 : True := trivial
theorem hd.tw15207398651663016943 : True := trivial
theorem hd.tw13628142620392400109 : True := trivial
theorem hd.tw8609351116199087170 : True := trivial
theorem hd.tw11814627755841444246 : True := trivial
theorem hd.tw7540655947842036084 : True := trivial
theorem hd.tw10111801491309104144 : True := trivial
theorem hd.tw18093812233618175256 : True := trivial
theorem hd.tw4819202231147424091 : True := trivial
theorem hd.tw5293500477943481205 : True := trivial
theorem hd.tw1870067075039425230 : True := trivial
theorem hd.tw11128854368766332075 : True := trivial
theorem hd.tw10026777125879992224 : True := trivial
theorem hd.tw9420132969298855359 : True := trivial
theorem hd.tw15637593595834871717 : True := trivial
theorem hd.tw4833718069199227053 : True := trivial
theorem hd.tw12353913968525425643 : True := trivial
theorem hd.tw7068711184596962023 : True := trivial
theorem hd.tw15424705756172794927 : True := trivial
theorem hd.tw8317466277049474617 : True := trivial
theorem hd.tw18322514126500204803 : True := trivial
theorem hd.tw1222794163293265305 : True := trivial
theorem hd.tw12629568148972539762 : True := trivial
theorem hd.tw1147470481896660410 : True := trivial
theorem hd.tw18015809273756184261 : True := trivial
theorem hd.tw9631708518359487223 : True := trivial
theorem hd.tw8458067239894703972 : True := trivial
theorem hd.tw7289601568589263668 : True := trivial
theorem hd.tw2329189449893159454 : True := trivial
theorem hd.tw3522803163333685576 : True := trivial
theorem hd.tw11660266114150955751 : True := trivial
theorem hd.tw10200926772931222457 : True := trivial
theorem hd.tw526207354791536317 : True := trivial
theorem hd.tw469108185253701220 : True := trivial
theorem hd.tw14106227501169856981 : True := trivial
theorem hd.tw8312999807965096350 : True := trivial
theorem hd.tw16227762859984022837 : True := trivial
theorem hd.tw16828841361933241965 : True := trivial
theorem hd.tw9983995961361265002 : True := trivial
theorem hd.tw5118731587858937692 : True := trivial
theorem hd.tw1588505670450824345 : True := trivial
theorem hd.tw5183643059803768456 : True := trivial
theorem hd.tw6140570298594658328 : True := trivial
theorem hd.tw1800889605409440832 : True := trivial
theorem hd.tw3913528116038191188 : True := trivial
theorem hd.tw2327210489368252092 : True := trivial
theorem hd.tw18421049791903953903 : True := trivial
theorem hd.tw9731375825926819010 : True := trivial
theorem hd.tw11749099774412794130 : True := trivial
theorem hd.tw14454528878903484812 : True := trivial
theorem hd.tw9325612240067072397 : True := trivial
theorem hd.tw2336748640663733628 : True := trivial
theorem hd.tw7085514621470718492 : True := trivial
theorem hd.tw10365702040365258594 : True := trivial
theorem hd.tw5480042469492414594 : True := trivial
theorem hd.tw4724112764586752083 : True := trivial
theorem hd.tw6902198413751149823 : True := trivial
theorem hd.tw12487502673411948298 : True := trivial
theorem hd.tw13468300074154594103 : True := trivial
theorem hd.tw6052482589124101219 : True := trivial
theorem hd.tw7372000682148998216 : True := trivial
theorem hd.tw15166520500009309586 : True := trivial
theorem hd.tw9673543361469618366 : True := trivial
theorem hd.tw16634568088961857937 : True := trivial
theorem hd.tw5373601922739893978 : True := trivial
theorem hd.tw8269573656231971908 : True := trivial
theorem hd.tw9215163618515126356 : True := trivial
theorem hd.tw7626941382939369770 : True := trivial
theorem hd.tw17739348878880393726 : True := trivial
theorem hd.tw4282304852377368616 : True := trivial
theorem hd.tw1051681510052472703 : True := trivial
theorem hd.tw1584506945513601688 : True := trivial
theorem hd.tw833173182276230429 : True := trivial
theorem hd.tw13616292390063288746 : True := trivial
theorem hd.tw15102309248680683417 : True := trivial
theorem hd.tw12050417470231563642 : True := trivial
theorem hd.tw12590977762386282803 : True := trivial
theorem hd.tw16877572437106014846 : True := trivial
theorem hd.tw243823211424636713 : True := trivial
theorem hd.tw9153386212771759811 : True := trivial
theorem hd.tw439843181053141970 : True := trivial
theorem hd.tw4297731678662094536 : True := trivial
theorem hd.tw9476321141362543215 : True := trivial
theorem hd.tw4609310046291750870 : True := trivial
theorem hd.tw16367509166517325345 : True := trivial
theorem hd.tw3673020696563887462 : True := trivial
theorem hd.tw18163647496604598072 : True := trivial
theorem hd.tw14852329139284432860 : True := trivial
theorem hd.tw4449123307109862055 : True := trivial
theorem hd.tw4508807971249618078 : True := trivial
theorem hd.tw7534799579077118603 : True := trivial
theorem hd.tw368366308016060594 : True := trivial
theorem hd.tw8735263284916673568 : True := trivial
theorem hd.tw6482722132109649516 : True := trivial
theorem hd.tw17213754286329925777 : True := trivial
theorem hd.tw10292235466723388172 : True := trivial
theorem hd.tw10601615944963115059 : True := trivial
theorem hd.tw5464967688985200232 : True := trivial
theorem hd.tw11032806212648032379 : True := trivial
theorem hd.tw10778257442750969130 : True := trivial
theorem hd.tw7676003278276379012 : True := trivial
theorem hd.tw8268277133935991078 : True := trivial
theorem hd.tw13368278939475635651 : True := trivial
theorem hd.tw13372043803930879067 : True := trivial
theorem hd.tw12112201142124510154 : True := trivial
theorem hd.tw12631932088317031055 : True := trivial
theorem hd.tw13218659294841961345 : True := trivial
theorem hd.tw4310969922304039945 : True := trivial
theorem hd.tw2578790182627478330 : True := trivial
theorem hd.tw8789358453043137523 : True := trivial
theorem hd.tw2922222751358710265 : True := trivial
theorem hd.tw15833661619300960221 : True := trivial
theorem hd.tw16056359734778111409 : True := trivial
theorem hd.tw16158619036321959407 : True := trivial
theorem hd.tw16246848685605474055 : True := trivial
theorem hd.tw2871226400543044806 : True := trivial
theorem hd.tw10835030195340973342 : True := trivial
theorem hd.tw6109525258741381055 : True := trivial
theorem hd.tw2788664435532181463 : True := trivial
theorem hd.tw15416985209724490359 : True := trivial
theorem hd.tw17335414052712997756 : True := trivial
theorem hd.tw12067141888466383235 : True := trivial
theorem hd.tw14492701947808656938 : True := trivial
theorem hd.tw7153062008950511462 : True := trivial
theorem hd.tw3953601041324332601 : True := trivial
theorem hd.tw12778418089203562962 : True := trivial
theorem hd.tw18152756486534528934 : True := trivial
theorem hd.tw16487816990975572028 : True := trivial
theorem hd.tw13893168526513508166 : True := trivial
theorem hd.tw4091639524402994376 : True := trivial
theorem hd.tw1256466517863071783 : True := trivial
theorem hd.tw13217225542625558698 : True := trivial
theorem hd.tw10404513684093684653 : True := trivial
theorem hd.tw11210553801493137410 : True := trivial
theorem hd.tw2770886237722202814 : True := trivial
theorem hd.tw13353348626548451038 : True := trivial
theorem hd.tw14896477498954680388 : True := trivial
theorem hd.tw10030107230732127627 : True := trivial
theorem hd.tw15220180469806662145 : True := trivial
theorem hd.tw12127338746724423809 : True := trivial
theorem hd.tw461538923250603899 : True := trivial
theorem hd.tw17606422857730326317 : True := trivial
theorem hd.tw922143313871775805 : True := trivial
theorem hd.tw10919297434634762262 : True := trivial
theorem hd.tw7492944070806833698 : True := trivial
theorem hd.tw6394381022753523788 : True := trivial
theorem hd.tw3182187488490625086 : True := trivial
theorem hd.tw9496365245306024149 : True := trivial
theorem hd.tw17583924267553061668 : True := trivial
theorem hd.tw7763873220885509757 : True := trivial
theorem hd.tw2431084293918406321 : True := trivial
theorem hd.tw5085467469062529664 : True := trivial
theorem hd.tw8879563391730754479 : True := trivial
theorem hd.tw17002781174329755331 : True := trivial
theorem hd.tw17599816209265215132 : True := trivial
theorem hd.tw16009884308244765898 : True := trivial
theorem hd.tw8887996145723391905 : True := trivial
theorem hd.tw16029623286316568529 : True := trivial
theorem hd.tw16222313170607110356 : True := trivial
theorem hd.tw15054049728407801353 : True := trivial
theorem hd.tw8516288146210602744 : True := trivial
theorem hd.tw13155211650623716127 : True := trivial
theorem hd.tw14620637471214046174 : True := trivial
theorem hd.tw16661405048812198066 : True := trivial
theorem hd.tw6982297934935202809 : True := trivial
theorem hd.tw8658944758372502048 : True := trivial
theorem hd.tw2468469042602058204 : True := trivial
theorem hd.tw12175748835895409678 : True := trivial
theorem hd.tw11151547217846952531 : True := trivial
theorem hd.tw7492773218913965947 : True := trivial
theorem hd.tw2195365466389143174 : True := trivial
theorem hd.tw578887228443019578 : True := trivial
theorem hd.tw1760603350576429475 : True := trivial
theorem hd.tw9386895884608548742 : True := trivial
theorem hd.tw4867443594122359892 : True := trivial
theorem hd.tw16853252838358632063 : True := trivial
theorem hd.tw881544763273948857 : True := trivial
theorem hd.tw3085183777334472315 : True := trivial
theorem hd.tw18370931923303237609 : True := trivial
theorem hd.tw13606922415975196911 : True := trivial
theorem hd.tw15931116738044738221 : True := trivial
theorem hd.tw15687388767607454252 : True := trivial
theorem hd.tw3259873300814134281 : True := trivial
theorem hd.tw1717729237380139383 : True := trivial
theorem hd.tw16006246977917349235 : True := trivial
theorem hd.tw7399621439246259153 : True := trivial
theorem hd.tw5859118754885311737 : True := trivial
theorem hd.tw3044193314922437478 : True := trivial
theorem hd.tw10031445930688152421 : True := trivial
theorem hd.tw4494801613693538912 : True := trivial
theorem hd.tw11115866451450875312 : True := trivial
theorem hd.tw12103701333906454223 : True := trivial
theorem hd.tw678209747344391502 : True := trivial
theorem hd.tw7082855905992002993 : True := trivial
theorem hd.tw3215350286424857435 : True := trivial
theorem hd.tw11375277706881905925 : True := trivial
theorem hd.tw4643362625855044894 : True := trivial
theorem hd.tw697623264460660564 : True := trivial
theorem hd.tw10654345511274693656 : True := trivial
theorem hd.tw6291416237084387574 : True := trivial
theorem hd.tw9976723597467198900 : True := trivial
theorem hd.tw14189342980343032745 : True := trivial
theorem hd.tw2051048951616859547 : True := trivial
theorem hd.tw2315301623876862497 : True := trivial
theorem hd.tw8025032847418708242 : True := trivial
theorem hd.tw402640490398009360 : True := trivial
theorem hd.tw11989115745444340534 : True := trivial
theorem hd.tw4014540891139286612 : True := trivial
theorem hd.tw17986969038992634876 : True := trivial
theorem hd.tw9073681462420916055 : True := trivial
theorem hd.tw14120982254508448379 : True := trivial
theorem hd.tw7270182246851987180 : True := trivial
theorem hd.tw7721951785955056133 : True := trivial
theorem hd.tw8587404781116728655 : True := trivial
theorem hd.tw789496646480088055 : True := trivial
theorem hd.tw5299927114449058123 : True := trivial
theorem hd.tw5138769234217329475 : True := trivial
theorem hd.tw14772383043592177042 : True := trivial
theorem hd.tw16169374299450900766 : True := trivial
theorem hd.tw7541792107247259296 : True := trivial
theorem hd.tw18406568778348887127 : True := trivial
theorem hd.tw6293948785866598258 : True := trivial
theorem hd.tw15344866539931968096 : True := trivial
theorem hd.tw960944832710211464 : True := trivial
theorem hd.tw18264374347568628810 : True := trivial
theorem hd.tw14706022693812145444 : True := trivial
theorem hd.tw6903541053762270361 : True := trivial
theorem hd.tw16744898341101239380 : True := trivial
theorem hd.tw4315991029959535628 : True := trivial
theorem hd.tw15278966056882409248 : True := trivial
theorem hd.tw8803977449572941912 : True := trivial
theorem hd.tw2867327485932766208 : True := trivial
theorem hd.tw17172931820748874959 : True := trivial
theorem hd.tw6709418730364537143 : True := trivial
theorem hd.tw15766875824913328220 : True := trivial
theorem hd.tw13783031573616600631 : True := trivial
theorem hd.tw14980023328507725902 : True := trivial
theorem hd.tw1610171440888473627 : True := trivial
theorem hd.tw16194383521188589630 : True := trivial
theorem hd.tw5405509625223553959 : True := trivial
theorem hd.tw13096558090100123544 : True := trivial
theorem hd.tw9748044761591592747 : True := trivial
theorem hd.tw18241275227582772068 : True := trivial
theorem hd.tw6046454685291232161 : True := trivial
theorem hd.tw6627881031435992008 : True := trivial
theorem hd.tw15923250282426842828 : True := trivial
theorem hd.tw2134215046882385847 : True := trivial
theorem hd.tw10847404155465417027 : True := trivial
theorem hd.tw1157804721814978856 : True := trivial
theorem hd.tw1033889070964956483 : True := trivial
theorem hd.tw5810065557313606291 : True := trivial
theorem hd.tw13466754112058979494 : True := trivial
theorem hd.tw10283529075043463162 : True := trivial
theorem hd.tw8990313861142287110 : True := trivial
theorem hd.tw12629531694177875297 : True := trivial
theorem hd.tw8068729725432388964 : True := trivial
theorem hd.tw9753359207989701909 : True := trivial
theorem hd.tw12035623454917710897 : True := trivial
theorem hd.tw12364972598781006883 : True := trivial
theorem hd.tw567884609423149705 : True := trivial
theorem hd.tw12900700647772717614 : True := trivial
theorem hd.tw16299908979028503884 : True := trivial
theorem hd.tw1445366717492459972 : True := trivial
theorem hd.tw8244733829118024811 : True := trivial
theorem hd.tw2887051446865420828 : True := trivial
theorem hd.tw14439243815434019604 : True := trivial
theorem hd.tw4916360252006170105 : True := trivial
theorem hd.tw12509009523430927325 : True := trivial
theorem hd.tw8242931771332617035 : True := trivial
theorem hd.tw13944508082162953488 : True := trivial
theorem hd.tw5562173858411828344 : True := trivial
theorem hd.tw12872897951434832890 : True := trivial
theorem hd.tw2084507788549644732 : True := trivial
theorem hd.tw17956543221229664512 : True := trivial
theorem hd.tw6988595667528144454 : True := trivial
theorem hd.tw1976262728313527643 : True := trivial
theorem hd.tw7754304195085646258 : True := trivial
theorem hd.tw16332348944364537037 : True := trivial
theorem hd.tw14333710738500927179 : True := trivial
theorem hd.tw7510230149288206974 : True := trivial
theorem hd.tw2252305205657439004 : True := trivial
theorem hd.tw9719896912496429819 : True := trivial
theorem hd.tw10024716035694756283 : True := trivial
theorem hd.tw13342606739435360313 : True := trivial
theorem hd.tw1386097877827089520 : True := trivial
theorem hd.tw9299267367459917385 : True := trivial
theorem hd.tw4706079058837389440 : True := trivial
theorem hd.tw10246146449241189800 : True := trivial
theorem hd.tw3828038474966422129 : True := trivial
theorem hd.tw3229955645248102723 : True := trivial
theorem hd.tw15610959940260225430 : True := trivial
theorem hd.tw15228807520496212463 : True := trivial
theorem hd.tw8545014587354053640 : True := trivial
theorem hd.tw17387473266821786944 : True := trivial
theorem hd.tw3419581819265744254 : True := trivial
theorem hd.tw7654286748164834634 : True := trivial
theorem hd.tw257007361410690125 : True := trivial
theorem hd.tw4521580383011477154 : True := trivial
theorem hd.tw16083421223730518785 : True := trivial
theorem hd.tw2855845756224970109 : True := trivial
theorem hd.tw6683769817339685419 : True := trivial
theorem hd.tw12976082216212581069 : True := trivial
theorem hd.tw16173144727172801181 : True := trivial
theorem hd.tw2900905267640511130 : True := trivial
theorem hd.tw9741134391959003819 : True := trivial
theorem hd.tw10450363280022070651 : True := trivial
theorem hd.tw2295870552580634182 : True := trivial
theorem hd.tw14353793391729792155 : True := trivial
theorem hd.tw10860895700388868024 : True := trivial
theorem hd.tw4734902545126651661 : True := trivial
theorem hd.tw10879034167726328663 : True := trivial
theorem hd.tw5283464899586487735 : True := trivial
theorem hd.tw11984409736253958808 : True := trivial
theorem hd.tw10117440562283002822 : True := trivial
theorem hd.tw13330244855972007585 : True := trivial
theorem hd.tw9641152695372364146 : True := trivial
theorem hd.tw226724450230711188 : True := trivial
theorem hd.tw9429285754427346401 : True := trivial
theorem hd.tw8004679753235328684 : True := trivial
theorem hd.tw14446474709323646786 : True := trivial
theorem hd.tw546821695630378048 : True := trivial
theorem hd.tw13624431586668435662 : True := trivial
theorem hd.tw6615107907471364465 : True := trivial
theorem hd.tw18291419657060728153 : True := trivial
theorem hd.tw13206406409579783871 : True := trivial
theorem hd.tw4021928978595405253 : True := trivial
theorem hd.tw16154546982801380032 : True := trivial
theorem hd.tw17902569758825723728 : True := trivial
theorem hd.tw12976186185376257304 : True := trivial
theorem hd.tw13127669511221941974 : True := trivial
theorem hd.tw15643275761693703936 : True := trivial
theorem hd.tw541196102884509978 : True := trivial
theorem hd.tw17130151131035750659 : True := trivial
theorem hd.tw15337868472472888810 : True := trivial
theorem hd.tw858883931015391567 : True := trivial
theorem hd.tw6528754448969337418 : True := trivial
theorem hd.tw5715734110848049390 : True := trivial
theorem hd.tw17232729238497989147 : True := trivial
theorem hd.tw10258999931320997221 : True := trivial
theorem hd.tw1582976572388173787 : True := trivial
theorem hd.tw4870687313549177768 : True := trivial
theorem hd.tw17893044597097874663 : True := trivial
theorem hd.tw1810128313956251070 : True := trivial
theorem hd.tw17336936450418997793 : True := trivial
theorem hd.tw7076163891533521732 : True := trivial
theorem hd.tw11232374478483605306 : True := trivial
theorem hd.tw11775305588321162381 : True := trivial
theorem hd.tw1728934660973012959 : True := trivial
theorem hd.tw9813410681712176819 : True := trivial
theorem hd.tw18185714744248944022 : True := trivial
theorem hd.tw9131607905817354932 : True := trivial
theorem hd.tw5490696432328200686 : True := trivial
theorem hd.tw4218252797249083135 : True := trivial
theorem hd.tw12995909851351757392 : True := trivial
theorem hd.tw6598312636042714100 : True := trivial
theorem hd.tw17234923516513369237 : True := trivial
theorem hd.tw15946388913382835224 : True := trivial
theorem hd.tw17470177872615007328 : True := trivial
theorem hd.tw17447410573909459338 : True := trivial
theorem hd.tw12659318050587179527 : True := trivial
theorem hd.tw4360684699965382250 : True := trivial
theorem hd.tw4138081844389336918 : True := trivial
theorem hd.tw17143746779515762356 : True := trivial
theorem hd.tw525622484199402719 : True := trivial
theorem hd.tw14612060388864693735 : True := trivial
theorem hd.tw5505332120971382143 : True := trivial
theorem hd.tw10224846074564989696 : True := trivial
theorem hd.tw11968265576560266318 : True := trivial
theorem hd.tw3039998526598829958 : True := trivial
theorem hd.tw13929354066492186541 : True := trivial
theorem hd.tw2951005344575393816 : True := trivial
theorem hd.tw15813434630575017362 : True := trivial
theorem hd.tw5334465803284312953 : True := trivial
theorem hd.tw1997569388931296116 : True := trivial
theorem hd.tw8293946417935249925 : True := trivial
theorem hd.tw14168552714766633299 : True := trivial
/-! the head, and the law -/
set_option Elab.async true in
theorem hd : PySem.Challenge.rw_ik0062_01.Holds := by
  w_on
  o_law
  o_head (kHook KH asKH (fun _ => by kernel_rfl))
  (case hw => w_witness2)
  exact walk_all rfl (by kernel_rfl)
end Mine
theorem PySem.Challenge.cw_ik0062_01_holds : PySem.Challenge.rw_ik0062_01.Holds :=
  Mine.hd
