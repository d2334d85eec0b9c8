import PyProof.Rows.All
import Wide.All
import OpenK.AllK
import Wide.FinOn
import PySem.Challenge.RW_mq0191_01
open PySem PySem.W PyProof.Rows
set_option Elab.async false
set_option linter.all false
/-! Hd -/
namespace Mine
set_option Elab.async false
set_option maxRecDepth 100000 in
set_option maxHeartbeats 8000000 in
open_top hd for PySem.Challenge.rw_mq0191_01

end Mine
/-! T1 -/
set_option Elab.async false
set_option maxRecDepth 100000
namespace Mine
section
variable {prog : Program} {w : World} {A : Around} {R : Result → Shared → Prop} {s : Shared} {E : Value → Shared → Prop}
theorem for_turn1 {target it body orelse env}
    (turn : wpAny (model prog w) A (pyNext it) (fun r s₁ => match r with
      | none => wpAny (model prog w) A (execs orelse env) (fun f s₃ => R (.ok f) s₃) (fun _ _ => False) s₁
      | some v => wpAny (model prog w) A (letOwnedTupleGo target it v) (fun _ s₁' =>
          wpAny (model prog w) A (assign target env v) (fun _ s₂ => wpAny (model prog w) A (execs body env) (fun f s₃ => match f with
            | .next | .cont => codeAny (model prog w) A (.forLoop target it body orelse env) R s₃
            | .brk => R (.ok .next) s₃
            | .ret v => R (.ok (.ret v)) s₃) (fun _ _ => False) s₂) (fun _ _ => False) s₁') (fun _ _ => False) s₁) (fun _ _ => False) s) :
    codeAny (model prog w) A (.forLoop target it body orelse env) R s := by
  refine codeAny_of_tree ?_
  show wpAny _ A ((forTurn target it body orelse env).onRaise (fun x => do noteFrame x env; theTreesLotGoes x)) _ _ s
  refine wpAny_noted (wpAny_noRaise ?_)
  simp only [forTurn]
  refine wpAny_bind (wpAny_standAt (wpAny_bind (wpAny_onRaise (wpAny_mono turn (fun r s₁ h₁ => ?_) fun _ _ h' => h'.elim))))
  cases r with
  | none => exact wpAny_pure ⟨rfl, codeAny_block (wpAny_noRaise h₁)⟩
  | some v =>
    refine wpAny_bind (wpAny_mono h₁ (fun _ s₁' h₁' => ?_) fun _ _ h' => h')
    refine wpAny_bind (wpAny_mono h₁' (fun _ s₂ h₂ => wpAny_bind (wpAny_mono h₂ (fun f s₃ h₃ => ?_) fun _ _ h' => h')) fun _ _ h' => h')
    cases f with
    | next => exact wpAny_pure ⟨rfl, h₃⟩
    | cont => exact wpAny_pure ⟨rfl, h₃⟩
    | brk => exact wpAny_pure h₃
    | ret v => exact wpAny_pure h₃

theorem for_start {target iter body orelse pos env} {Q : Flow → Shared → Prop}
    (h : wpAny (model prog w) A (eval iter env) (fun x s₁ => wpAny (model prog w) A (pyIter x) (fun it s₂ =>
      codeAny (model prog w) A (.forLoop target it body orelse env) (fun r s' => match r with | .ok f => Q f s' | .error _ => False) s₂) (fun _ _ => False) s₁) (fun _ _ => False) s)
    (hs : ∀ x, foldedSetIterable iter env x = pure x := by intro _; rfl) :
    wpAny (model prog w) A (exec (.For target iter body orelse pos) env) Q E s := by
  refine wpAny_For (wpAny_mono h (fun x s₁ h₁ => wpAny_mono h₁ (fun it s₂ h₂ => codeAny_mono h₂ fun r s' hr => ?_) fun _ _ f => f.elim) fun _ _ f => f.elim) hs
  cases r with
  | ok f => exact hr
  | error e => exact hr.elim
end
end Mine

/-! T2 -/
open AutoSeq1 (wpAny_loadPart')
set_option Elab.async false
set_option maxRecDepth 100000
namespace Mine

theorem meets_enum_tup (l : Addr) (items : Array Value) (n : Nat) :
    Meets (Builtin.«enumerate.__new__» ⟨[.type "enumerate", .ref l], []⟩) (fun _ R s => s.heap.get? l = some { cls := .type "tuple", dict := none, data := .seq items n, slots := #[] } ∧
      R (.ok (.ret (.ref (s.heap.push { cls := .type "tuple_iterator", data := .fields #[.ref l, .int 0 0] }).objs.size)))
        { s with heap := (s.heap.push { cls := .type "tuple_iterator", data := .fields #[.ref l, .int 0 0] }).push { cls := .type "enumerate", data := .fields #[.none, .bool false, .ref s.heap.objs.size, rawInt 0, .none, .none] } }) :=
  .of_wp fun prog w A R s h => by
    obtain ⟨hp, g, d, tk, os⟩ := s; obtain ⟨hl, h⟩ := h
    have hsub := sub_enumerate
    have hL : Heap.IsTuple (Shared.heap ⟨hp, g, d, tk, os⟩) l items := ⟨_, hl, rfl, n, rfl⟩
    wp_walk using wpAny_loadPart' hl
    refine wpAny_stack_any fun st => wpAny_pure ?_
    split
    · rename_i c _ _ _ _ _
      cases (c == Value.type "enumerate")
      · wp_walk using wpAny_loadPart' hl, wpAny_pyIter_tuple hL
        exact ⟨_, rfl, h⟩
      · wp_walk using wpAny_loadPart' hl, wpAny_pyIter_tuple hL
        exact ⟨_, rfl, h⟩
    · wp_walk using wpAny_loadPart' hl, wpAny_pyIter_tuple hL
      exact ⟨_, rfl, h⟩

section
variable {prog : Program} {w : World} {A : Around} {E : Value → Shared → Prop} {s : Shared}
theorem call_enum_tup {l : Addr} {items : Array Value} {n : Nat} {Q : Value → Shared → Prop}
    (hl : s.heap.get? l = some { cls := .type "tuple", dict := none, data := .seq items n, slots := #[] })
    (h : ∀ h', IsEnum h' (s.heap.objs.size + 1) s.heap.objs.size 0 .none → h'.IsTupleIter s.heap.objs.size l 0 → h'.objs.size = s.heap.objs.size + 2 →
      (∀ b o, s.heap.get? b = some o → h'.get? b = some o) → Q (.ref (s.heap.objs.size + 1)) { s with heap := h' }) :
    wpAny (model prog w) A (call (.type "enumerate") [.ref l]) Q E s := by
  refine callType_new F.called_enumerate (by decide) (F.typeCall_enumerate_1 _) (F.newCall_enumerate_1 _) (fun obj => F.args_object_init_2 obj _) F.entry_enumerate_new
    (meets_enum_tup l items n) ⟨hl, ?_⟩
  have hz : (s.heap.push { cls := .type "tuple_iterator", data := .fields #[.ref l, .int 0 0] }).objs.size = s.heap.objs.size + 1 := Heap.size_push ..
  show _ ∧ _
  rw [hz]
  have he : IsEnum ((s.heap.push { cls := .type "tuple_iterator", data := .fields #[.ref l, .int 0 0] }).push
      { cls := .type "enumerate", data := .fields #[.none, .bool false, .ref s.heap.objs.size, rawInt 0, .none, .none] }) (s.heap.objs.size + 1) s.heap.objs.size 0 .none := by
    have := Heap.get?_push_size (s.heap.push { cls := .type "tuple_iterator", data := .fields #[.ref l, .int 0 0] })
      (o := { cls := .type "enumerate", data := .fields #[.none, .bool false, .ref s.heap.objs.size, rawInt 0, .none, .none] }) rfl
    rw [hz] at this; exact this
  refine ⟨⟨_, he, rfl⟩, h _ he ⟨_, Heap.get?_push_of_some _ (Heap.get?_push_size _ rfl), rfl, rfl⟩ (by rw [Heap.size_push, hz]) fun b o x => Heap.get?_push_of_some _ (Heap.get?_push_of_some _ x)⟩

theorem nextOf_tup_item {it l : Addr} {i : Nat} {items} {x : Value} {Q : Value → Shared → Prop} (hit : s.heap.IsTupleIter it l i)
    (hl : s.heap.IsTuple l items) (hx : items[i]? = some x)
    (hQ : ∀ h', h'.IsTupleIter it l (i + 1) → Heap.SameBut it s.heap h' → Q x { s with heap := h' }) :
    wpAny (model prog w) A (Builtin.SmallTypes.nextOf (.ref it)) Q E s := by
  obtain ⟨o, ho, hc, hd⟩ := id hit
  obtain ⟨ol, hol, _, nl, hdl⟩ := hl
  unfold Builtin.SmallTypes.nextOf
  refine wpAny_bind (wpAny_callSpecial?_slot (name := Str.ofString "__next__") hit.typeIs F.slot_tuple_iterator_next
    (wpAny_call_entry F.slot_tuple_iterator_next hit.typeIs F.entry_tuple_iterator_next ?_ (F.args_tuple_iterator_next_1 _)))
  show wpAny _ _ (field (.ref it) 0 >>= _) _ _ s
  refine wpAny_bind (wpAny_field ho hd (x := .ref l) rfl ?_)
  show wpAny _ _ (if (Value.ref l == Value.none) = true then _ else _) _ _ s
  rw [if_neg (show ¬ ((Value.ref l == Value.none) = true) from Bool.false_ne_true)]
  show wpAny _ _ (field (.ref it) 1 >>= _) _ _ s
  refine wpAny_bind (wpAny_field ho hd (x := .int i 0) rfl ?_)
  show wpAny _ _ (seqItems? (.ref l) >>= _) _ _ s
  refine wpAny_bind (wpAny_seqItems hol hdl ?_)
  simp only [Int.toNat_natCast, hx]
  refine wpAny_bind (wpAny_setField ho hd (by simp) (wpAny_pure ⟨x, rfl, wpAny_pure (hQ _ ?_ (Heap.SameBut.update ..))⟩))
  exact ⟨_, Heap.get?_update_self _ ho (Obj.isFreed_of_fields (Obj.data_mapFields hd _)), (Obj.cls_mapFields ..).trans hc, by
    rw [Obj.data_mapFields hd]; simp [rawInt]⟩

theorem nextOf_tup_end {it l : Addr} {i : Nat} {items} {Q : Value → Shared → Prop} (hh : A.handled = none)
    (hit : s.heap.IsTupleIter it l i) (hl : s.heap.IsTuple l items) (hx : items[i]? = none)
    (hE : ∀ h' e, Heap.ExtBut it s.heap h' → (∃ o, h'.get? e = some o ∧ o.cls = .type "StopIteration") → E (.ref e) { s with heap := h' }) :
    wpAny (model prog w) A (Builtin.SmallTypes.nextOf (.ref it)) Q E s := by
  obtain ⟨o, ho, hc, hd⟩ := id hit
  obtain ⟨ol, hol, _, nl, hdl⟩ := hl
  unfold Builtin.SmallTypes.nextOf
  refine wpAny_bind (wpAny_callSpecial?_slot (name := Str.ofString "__next__") hit.typeIs F.slot_tuple_iterator_next
    (wpAny_call_entry F.slot_tuple_iterator_next hit.typeIs F.entry_tuple_iterator_next ?_ (F.args_tuple_iterator_next_1 _)))
  show wpAny _ _ (field (.ref it) 0 >>= _) _ _ s
  refine wpAny_bind (wpAny_field ho hd (x := .ref l) rfl ?_)
  show wpAny _ _ (if (Value.ref l == Value.none) = true then _ else _) _ _ s
  rw [if_neg (show ¬ ((Value.ref l == Value.none) = true) from Bool.false_ne_true)]
  show wpAny _ _ (field (.ref it) 1 >>= _) _ _ s
  refine wpAny_bind (wpAny_field ho hd (x := .int i 0) rfl ?_)
  show wpAny _ _ (seqItems? (.ref l) >>= _) _ _ s
  refine wpAny_bind (wpAny_seqItems hol hdl ?_)
  simp only [Int.toNat_natCast, hx]
  refine wpAny_bind (wpAny_rule (wpAny_bind (wpAny_setField ho hd (by simp) ?_)))
  show wpAny _ _ (newExc (.type "StopIteration") [] >>= _) _ _ _
  refine wpAny_bind ?_
  simp only [newExc, newTuple]
  refine wpAny_bind (wpAny_newObj_type ?_ (by size_fits))
  refine wpAny_bind (m := firstArgMember _ _) (wpAny_of_eq (a := Value.none) (by first | rfl | (simp only [firstArgMember]; rfl)) ?_)
  refine wpAny_newObj_type ?_ (by size_fits)
  simp only [raiseNew]
  refine wpAny_bind (wpAny_handled ?_)
  first | rw [show A.in1.handled = none from hh] | rw [hh]
  refine wpAny_bind (wpAny_pure (wpAny_throw ?_))
  exact hE _ _ (((Heap.SameBut.update ..).extBut.push _).push _) ⟨_, Heap.get?_push_size _ rfl, rfl⟩

theorem enumT_next_item {e it l : Addr} {i : Nat} {items : Array Value} {x old : Value} {Q : Value → Shared → Prop}
    (he : IsEnum s.heap e it i old) (hit : s.heap.IsTupleIter it l i) (hl : s.heap.IsTuple l items) (hx : items[i]? = some x) (hne : e ≠ it)
    (hQ : ∀ h', IsEnumOut h' e it ((i : Int) + 1) x s.heap.objs.size → h'.IsTupleIter it l (i + 1) →
      h'.get? s.heap.objs.size = some { cls := .type "tuple", data := .seq #[.int i s.toks, x] } → h'.objs.size = s.heap.objs.size + 1 →
      (∀ b o, b ≠ e → b ≠ it → s.heap.get? b = some o → h'.get? b = some o) → Q (.ref s.heap.objs.size) { s with heap := h', toks := s.toks + 1 }) :
    wpAny (model prog w) A (Builtin.«enumerate.__next__» ⟨[.ref e], []⟩) (fun fin s' => ∃ v, fin = .done (.ret v) ∧ Q v s') E s := by
  obtain ⟨hp, g, d, tk, os⟩ := s
  show wpAny _ _ (field (.ref e) 2 >>= _) _ _ _
  refine wpAny_bind (wpAny_field he rfl (x := .ref it) rfl ?_)
  refine wpAny_bind (nextOf_tup_item hit hl hx fun h₁ hit₁ hs₁ => ?_)
  replace hs₁ : Heap.SameBut it hp h₁ := hs₁
  have he₁ : IsEnum h₁ e it i old := (hs₁.2 e hne).trans he
  show wpAny _ _ (field (.ref e) 3 >>= _) _ _ ⟨h₁, g, d, tk, os⟩
  refine wpAny_bind (wpAny_field he₁ rfl (x := rawInt i) rfl ?_)
  show wpAny _ _ (field (.ref e) 4 >>= _) _ _ ⟨h₁, g, d, tk, os⟩
  refine wpAny_bind (wpAny_field he₁ rfl (x := .none) rfl ?_)
  show wpAny _ _ (mkInt i >>= _) _ _ ⟨h₁, g, d, tk, os⟩
  refine wpAny_bind (wpAny_mkInt ?_)
  show wpAny _ _ (setField (.ref e) 3 (rawInt ((i : Int) + 1)) >>= _) _ _ ⟨h₁, g, d, tk + 1, os⟩
  refine wpAny_bind (wpAny_setField_rec he₁ (by simp) fun h₂ he₂ hs₂ => ?_)
  replace hs₂ : Heap.SameBut e h₁ h₂ := hs₂
  replace he₂ : IsEnum h₂ e it ((i : Int) + 1) old := he₂
  show wpAny _ _ (setField (.ref e) 4 .none >>= _) _ _ ⟨h₂, g, d, tk + 1, os⟩
  refine wpAny_bind (wpAny_setField_rec he₂ (by simp) fun h₃ he₃ hs₃ => ?_)
  replace hs₃ : Heap.SameBut e h₂ h₃ := hs₃
  replace he₃ : IsEnum h₃ e it ((i : Int) + 1) old := he₃
  show wpAny _ _ (newTuple [.int i tk, x] >>= _) _ _ ⟨h₃, g, d, tk + 1, os⟩
  refine wpAny_bind (wpAny_newTuple ?_)
  have he₄ : IsEnum (h₃.push { cls := .type "tuple", data := .seq #[.int i tk, x] }) e it ((i : Int) + 1) old := Heap.get?_push_of_some _ he₃
  generalize hh₄ : h₃.push { cls := .type "tuple", data := .seq #[.int i tk, x] } = h₄ at he₄
  have hsz : h₃.objs.size = hp.objs.size := by rw [hs₃.1, hs₂.1, hs₁.1]
  have hel : e < hp.objs.size := Heap.lt_size he
  have ht₄ : h₄.get? hp.objs.size = some { cls := .type "tuple", data := .seq #[.int i tk, x] } := by rw [← hh₄, ← hsz]; exact Heap.get?_push_size _ rfl
  have hz₄ : h₄.objs.size = hp.objs.size + 1 := by rw [← hh₄, Heap.size_push, hsz]
  have hk₄ : ∀ b o, b ≠ e → b ≠ it → hp.get? b = some o → h₄.get? b = some o := fun b o hbe hbi hb => by
    rw [← hh₄]; exact Heap.get?_push_of_some _ (hs₃.extBut b o hbe (hs₂.extBut b o hbe (hs₁.extBut b o hbi hb)))
  have hit₄ : h₄.IsTupleIter it l (i + 1) := by
    rw [← hh₄]; obtain ⟨o, ho, r⟩ := (hit₁.extBut hs₂.extBut (Ne.symm hne)).extBut hs₃.extBut (Ne.symm hne); exact ⟨o, Heap.get?_push_of_some _ ho, r⟩
  show wpAny _ _ (Builtin.SmallTypes.ownedTupleIsFree (.ref e) >>= _) _ _ ⟨h₄, g, d, tk + 1, os⟩
  rw [hsz]
  clear hh₄ he₃ hs₃ he₂ hs₂ he₁ hs₁ hit₁ hsz h₃ h₂ h₁
  refine wpAny_bind ?_
  · unfold Builtin.SmallTypes.ownedTupleIsFree
    refine wpAny_bind (wpAny_field he₄ rfl (x := .none) rfl (wpAny_pure ?_))
    simp only [if_true]
    refine wpAny_bind (wpAny_rule ?_)
    refine wpAny_bind (wpAny_field he₄ rfl (x := old) rfl ?_)
    refine wpAny_bind (wpAny_setField_rec he₄ (by simp) fun h₅ he₅ hs₅ => ?_)
    replace hs₅ : Heap.SameBut e h₄ h₅ := hs₅
    replace he₅ : IsEnum h₅ e it ((i : Int) + 1) x := he₅
    show wpAny _ _ (Builtin.SmallTypes.ownedTupleHandOut (.ref e) (.ref hp.objs.size) >>= _) _ _ ⟨h₅, g, d, tk + 1, os⟩
    refine wpAny_bind ?_
    · unfold Builtin.SmallTypes.ownedTupleHandOut
      refine wpAny_bind (wpAny_setField_rec he₅ (by simp) fun h₆ he₆ hs₆ => ?_)
      replace hs₆ : Heap.SameBut e h₅ h₆ := hs₆
      replace he₆ : IsEnumOut h₆ e it ((i : Int) + 1) x hp.objs.size := he₆
      refine wpAny_setField_rec he₆ (by simp) fun h₇ he₇ hs₇ => ?_
      replace hs₇ : Heap.SameBut e h₆ h₇ := hs₇
      replace he₇ : IsEnumOut h₇ e it ((i : Int) + 1) x hp.objs.size := he₇
      refine wpAny_bind (wpAny_letGo (wpAny_pure ⟨_, rfl, hQ h₇ he₇ ?_ ?_ ?_ ?_⟩))
      · exact ((hit₄.extBut hs₅.extBut (Ne.symm hne)).extBut hs₆.extBut (Ne.symm hne)).extBut hs₇.extBut (Ne.symm hne)
      · exact hs₇.extBut _ _ (Nat.ne_of_gt hel) (hs₆.extBut _ _ (Nat.ne_of_gt hel) (hs₅.extBut _ _ (Nat.ne_of_gt hel) ht₄))
      · rw [hs₇.1, hs₆.1, hs₅.1, hz₄]
      · exact fun b o hbe hbi hb => hs₇.extBut b o hbe (hs₆.extBut b o hbe (hs₅.extBut b o hbe (hk₄ b o hbe hbi hb)))

theorem pyNext_enumT_item {e it l : Addr} {i : Nat} {items : Array Value} {x old : Value} {Q : Option Value → Shared → Prop}
    (he : IsEnum s.heap e it i old) (hit : s.heap.IsTupleIter it l i) (hl : s.heap.IsTuple l items) (hx : items[i]? = some x) (hne : e ≠ it)
    (hQ : ∀ h', IsEnumOut h' e it ((i : Int) + 1) x s.heap.objs.size → h'.IsTupleIter it l (i + 1) →
      h'.get? s.heap.objs.size = some { cls := .type "tuple", data := .seq #[.int i s.toks, x] } → h'.objs.size = s.heap.objs.size + 1 →
      (∀ b o, b ≠ e → b ≠ it → s.heap.get? b = some o → h'.get? b = some o) → Q (some (.ref s.heap.objs.size)) { s with heap := h', toks := s.toks + 1 }) :
    wpAny (model prog w) A (pyNext (.ref e)) Q E s := by
  have hT : s.TypeIs (.ref e) "enumerate" := ⟨_, he, rfl⟩
  unfold pyNext
  exact wpAny_bind (wpAny_attempt (wpAny_callSpecial?_slot (name := Str.ofString "__next__") hT F.slot_enumerate_next
    (wpAny_call_entry F.slot_enumerate_next hT F.entry_enumerate_next
      (enumT_next_item he hit hl hx hne fun h' a b c d k => wpAny_pure (hQ h' a b c d k)) (F.args_enumerate_next_1 _))))

theorem pyNext_enumT_end {e it l : Addr} {i : Nat} {items : Array Value} {old : Value} {Q : Option Value → Shared → Prop} (hh : A.handled = none)
    (he : IsEnum s.heap e it i old) (hit : s.heap.IsTupleIter it l i) (hl : s.heap.IsTuple l items) (hx : items[i]? = none)
    (hQ : ∀ h', Heap.ExtBut it s.heap h' → Q none { s with heap := h' }) : wpAny (model prog w) A (pyNext (.ref e)) Q E s := by
  have hT : s.TypeIs (.ref e) "enumerate" := ⟨_, he, rfl⟩
  unfold pyNext
  refine wpAny_bind (wpAny_attempt (wpAny_callSpecial?_slot (name := Str.ofString "__next__") hT F.slot_enumerate_next
    (wpAny_call_entry F.slot_enumerate_next hT F.entry_enumerate_next ?_ (F.args_enumerate_next_1 _))))
  show wpAny _ _ (field (.ref e) 2 >>= _) _ _ _
  refine wpAny_bind (wpAny_field he rfl (x := .ref it) rfl ?_)
  refine wpAny_bind (nextOf_tup_end hh hit hl hx fun h' x he' hx' => ?_)
  obtain ⟨o, ho, hc⟩ := hx'
  refine wpAny_bind (wpAny_isInstance (T := "StopIteration") (b := true) ⟨o, ho, hc⟩ isSubtype_stop ?_)
  exact wpAny_pure (hQ _ he')
end
end Mine

/-! T3 -/
set_option Elab.async false
set_option maxRecDepth 100000
namespace Mine
/-- a turn's end: the iterators' objects stand, the rest of the ledger is told by J -/
def TEnd (g : Heap) (L : Addr) (its : List (Addr × Obj)) (J : (Str → Option Value) → List (Addr × Obj) → Prop) (s s₃ : Shared) : Prop :=
  ∃ h' tk m' news', s₃ = { s with heap := h', toks := tk } ∧ Fr g L h' m' ∧ News g L h' (its ++ news') ∧ (∀ p ∈ its, ∀ q ∈ news', q.1 ≠ p.1) ∧ J m' news'
theorem TEnd.intro {g : Heap} {L : Addr} {its : List (Addr × Obj)} {J : (Str → Option Value) → List (Addr × Obj) → Prop} {s : Shared} {h' : Heap} {tk : Nat} {m' : Str → Option Value} {news' : List (Addr × Obj)}
    (F : Fr g L h' m') (N : News g L h' (its ++ news')) (off : ∀ p ∈ its, ∀ q ∈ news', q.1 ≠ p.1) (j : J m' news') : TEnd g L its J s { s with heap := h', toks := tk } := ⟨h', tk, m', news', rfl, F, N, off, j⟩
def TPost (g : Heap) (L : Addr) (its : List (Addr × Obj)) (J : (Str → Option Value) → List (Addr × Obj) → Prop) (s : Shared) (Q : Flow → Shared → Prop) (f : Flow) (s₃ : Shared) : Prop :=
  match f with
  | .ret v => Q (.ret v) s₃
  | .brk => Q .next s₃
  | _ => TEnd g L its J s s₃

theorem upd_iter {g h h' : Heap} {L I : Addr} {o o' : Obj} {m : Str → Option Value} {news : List (Addr × Obj)} (F : Fr g L h m) (N : News g L h ((I, o) :: news)) (off : ∀ q ∈ news, q.1 ≠ I)
    (ho : h'.get? I = some o') (hs : ∀ b x, b ≠ I → h.get? b = some x → h'.get? b = some x) : Fr g L h' m ∧ News g L h' ((I, o') :: news) := by
  have hI := N _ (.head _)
  refine ⟨⟨F.ns.at' fun x e => hs _ _ (Ne.symm hI.2.1) e, fun b x e => hs _ _ (fun q => ?_) (F.keep b x e), F.above⟩, fun p hp => ?_⟩
  · have := hI.2.2
    rw [← q] at this
    rw [this] at e
    cases e
  · rcases List.mem_cons.mp hp with rfl | hp
    · exact ⟨ho, hI.2.1, hI.2.2⟩
    · exact ⟨hs _ _ (off p hp) (N p (.tail _ hp)).1, (N p (.tail _ hp)).2⟩

section
variable {prog : Program} {w : World} {A : Around} {s : Shared} {env : Env} {g : Heap} {target : Expr} {body orelse : List Stmt} {Q : Flow → Shared → Prop}

theorem for_tup {t : Addr} {items : List Value} {m : Str → Option Value} {news : List (Addr × Obj)}
    (hh : A.handled = none) (F : Fr g env.locals s.heap m) (N : News g env.locals s.heap news) (ht : g.IsTuple t items.toArray)
    (loop : ∀ I, (∀ p ∈ news, p.1 < I) → ∃ J : Nat → (Str → Option Value) → List (Addr × Obj) → Prop, J 0 m news ∧
      (∀ i v m₁ news₁ h tk o, items[i]? = some v → o.cls = .type "tuple_iterator" → J i m₁ news₁ → Fr g env.locals h m₁ → News g env.locals h ((I, o) :: news₁) →
        wpAny (model prog w) A (assign target env v) (fun _ s₂ => wpAny (model prog w) A (execs body env) (TPost g env.locals [(I, o)] (J (i + 1)) { s with heap := h, toks := tk } Q) (fun _ _ => False) s₂) (fun _ _ => False) { s with heap := h, toks := tk }) ∧
      (∀ m₁ news₁ h tk, J items.length m₁ news₁ → Fr g env.locals h m₁ → News g env.locals h news₁ →
        wpAny (model prog w) A (execs orelse env) Q (fun _ _ => False) { s with heap := h, toks := tk })) :
    wpAny (model prog w) A (pyIter (.ref t)) (fun it s₂ => codeAny (model prog w) A (.forLoop target it body orelse env) (fun r s' => match r with | .ok f => Q f s' | .error _ => False) s₂) (fun _ _ => False) s := by
  obtain ⟨ot, hot, hct, nt, hdt⟩ := id ht
  have hts : s.heap.IsTuple t items.toArray := ⟨ot, F.keep _ _ hot, hct, nt, hdt⟩
  refine wpAny_pyIter_tuple hts ?_
  have hlt : ∀ p ∈ news, p.1 < s.heap.objs.size := fun p hp => Heap.lt_size (N p hp).1
  obtain ⟨J, j0, turn, done⟩ := loop s.heap.objs.size hlt
  have key : ∀ k i h tk m₁ news₁ o, i + k = items.length → o.cls = .type "tuple_iterator" → o.data = .fields #[.ref t, .int i 0] → J i m₁ news₁ → (∀ q ∈ news₁, q.1 ≠ s.heap.objs.size) → Fr g env.locals h m₁ → News g env.locals h ((s.heap.objs.size, o) :: news₁) →
      codeAny (model prog w) A (.forLoop target (.ref s.heap.objs.size) body orelse env) (fun r s' => match r with | .ok f => Q f s' | .error _ => False) { s with heap := h, toks := tk } := by
    intro k
    induction k with
    | zero =>
      intro i h tk m₁ news₁ o hi hc hd hj hoff F₁ N₁
      have hi' : i = items.length := by omega
      subst hi'
      refine for_turn1 ?_
      refine wpAny_pyNext_tuple_end hh (t := t) (i := items.length) (items := items.toArray) ⟨o, (N₁ _ (.head _)).1, hc, hd⟩ ⟨ot, F₁.keep _ _ hot, hct, nt, hdt⟩ (by simp) fun h' he => ?_
      dsimp only
      have hI := N₁ _ (.head _)
      refine wpAny_mono (done m₁ news₁ h' tk hj ⟨F₁.ns.at' fun x e => he _ _ (Ne.symm hI.2.1) e, fun b x e => he _ _ (fun q => ?_) (F₁.keep b x e), F₁.above⟩ fun p hp => ⟨he _ _ (hoff p hp) (N₁ p (.tail _ hp)).1, (N₁ p (.tail _ hp)).2⟩) (fun _ _ e => e) fun _ _ e => e
      have := hI.2.2
      rw [← q] at this
      rw [this] at e
      cases e
    | succ k ih =>
      intro i h tk m₁ news₁ o hi hc hd hj hoff F₁ N₁
      have hlt' : i < items.length := by omega
      refine for_turn1 ?_
      refine wpAny_pyNext_tuple_item (t := t) (i := i) (items := items.toArray) (x := items[i]) ⟨o, (N₁ _ (.head _)).1, hc, hd⟩ ⟨ot, F₁.keep _ _ hot, hct, nt, hdt⟩ (by simp [hlt']) fun h' hit hs => ?_
      dsimp only
      refine letGo_tupleiter hit ?_
      obtain ⟨o', ho', hc', hd'⟩ := hit
      obtain ⟨F₂, N₂⟩ := upd_iter F₁ N₁ hoff ho' fun b x hb e => hs.extBut b x hb e
      refine wpAny_mono (turn i items[i] m₁ news₁ h' tk o' (by simp [hlt']) hc' hj F₂ N₂) (fun _ s₂ h₂ => wpAny_mono h₂ (fun f s₃ p => ?_) fun _ _ e => e) fun _ _ e => e
      have fin : TEnd g env.locals [(s.heap.objs.size, o')] (J (i + 1)) { s with heap := h', toks := tk } s₃ → codeAny (model prog w) A (.forLoop target (.ref s.heap.objs.size) body orelse env) (fun r s' => match r with | .ok f => Q f s' | .error _ => False) s₃ := by
        rintro ⟨h₃, tk₃, m₃, news₃, rfl, F₃, N₃, off₃, j₃⟩
        exact ih (i + 1) h₃ tk₃ m₃ news₃ o' (by omega) hc' hd' j₃ (fun q hq => off₃ _ (.head _) q hq) F₃ N₃
      cases f with
      | ret v => exact p
      | brk => exact p
      | next => exact fin p
      | cont => exact fin p
  refine key items.length 0 _ s.toks m news { cls := .type "tuple_iterator", data := .fields #[.ref t, .int 0 0] } (by omega) rfl rfl j0 (fun q hq => Nat.ne_of_lt (hlt q hq)) (F.push _) (News.push F N _)

theorem for_enumT {t : Addr} {items : List Value} {nt : Nat} {m : Str → Option Value} {news : List (Addr × Obj)} {elts : List Expr} {k0 : Nat} {pos : Pos}
    (hh : A.handled = none) (F : Fr g env.locals s.heap m) (N : News g env.locals s.heap news) (ht : g.get? t = some { cls := .type "tuple", dict := none, data := .seq items.toArray nt, slots := #[] })
    (loop : ∀ I, (∀ p ∈ news, p.1 < I) → ∃ J : Nat → (Str → Option Value) → List (Addr × Obj) → Prop, J 0 m news ∧
      (∀ i v T tk0 m₁ news₁ h tk oe oi, items[i]? = some v → oe.cls = .type "enumerate" → oi.cls = .type "tuple_iterator" → J i m₁ news₁ → IsTup h T #[.int (i : Int) tk0, v] → Fr g env.locals h m₁ → News g env.locals h ((I + 1, oe) :: (I, oi) :: news₁) →
        wpAny (model prog w) A (assign (.Tuple elts k0 pos) env (.ref T)) (fun _ s₂ => wpAny (model prog w) A (execs body env) (TPost g env.locals [(I + 1, oe), (I, oi)] (J (i + 1)) { s with heap := h, toks := tk } Q) (fun _ _ => False) s₂) (fun _ _ => False) { s with heap := h, toks := tk }) ∧
      (∀ m₁ news₁ h tk, J items.length m₁ news₁ → Fr g env.locals h m₁ → News g env.locals h news₁ →
        wpAny (model prog w) A (execs orelse env) Q (fun _ _ => False) { s with heap := h, toks := tk })) :
    wpAny (model prog w) A (call (.type "enumerate") [.ref t]) (fun x s₁ => wpAny (model prog w) A (pyIter x) (fun it s₂ => codeAny (model prog w) A (.forLoop (.Tuple elts k0 pos) it body orelse env) (fun r s' => match r with | .ok f => Q f s' | .error _ => False) s₂) (fun _ _ => False) s₁) (fun _ _ => False) s := by
  have hts := F.keep _ _ ht
  refine call_enum_tup hts fun h0 hE hI hsz hk => ?_
  refine wpAny_pyIter_enum hE ?_
  have hlt : ∀ p ∈ news, p.1 < s.heap.objs.size := fun p hp => Heap.lt_size (N p hp).1
  have hLs : env.locals < s.heap.objs.size := F.ns.lt
  obtain ⟨J, j0, turn, done⟩ := loop s.heap.objs.size hlt
  have key : ∀ k i h tk m₁ news₁ old, i + k = items.length → IsEnum h (s.heap.objs.size + 1) s.heap.objs.size (i : Int) old → h.IsTupleIter s.heap.objs.size t i → J i m₁ news₁ → (∀ q ∈ news₁, q.1 ≠ s.heap.objs.size + 1 ∧ q.1 ≠ s.heap.objs.size) → Fr g env.locals h m₁ → News g env.locals h news₁ →
      codeAny (model prog w) A (.forLoop (.Tuple elts k0 pos) (.ref (s.heap.objs.size + 1)) body orelse env) (fun r s' => match r with | .ok f => Q f s' | .error _ => False) { s with heap := h, toks := tk } := by
    have old0 : ∀ b x, g.get? b = some x → b ≠ s.heap.objs.size + 1 ∧ b ≠ s.heap.objs.size := fun b x e => by
      have := Heap.lt_size (F.keep _ _ e)
      exact ⟨Nat.ne_of_lt (Nat.lt_succ_of_lt this), Nat.ne_of_lt this⟩
    have hL1 : env.locals ≠ s.heap.objs.size + 1 := Nat.ne_of_lt (Nat.lt_succ_of_lt hLs)
    have hL2 : env.locals ≠ s.heap.objs.size := Nat.ne_of_lt hLs
    intro k
    induction k with
    | zero =>
      intro i h tk m₁ news₁ old hi hE₁ hI₁ hj hoff F₁ N₁
      have hi' : i = items.length := by omega
      subst hi'
      refine for_turn1 ?_
      refine pyNext_enumT_end hh hE₁ hI₁ (items := items.toArray) ⟨_, F₁.keep _ _ ht, rfl, nt, rfl⟩ (by simp) fun h' he => ?_
      dsimp only
      exact wpAny_mono (done m₁ news₁ h' tk hj ⟨F₁.ns.at' fun x e => he _ _ hL2 e, fun b x e => he _ _ (old0 b x e).2 (F₁.keep b x e), F₁.above⟩ fun p hp => ⟨he _ _ (hoff p hp).2 (N₁ p hp).1, (N₁ p hp).2⟩) (fun _ _ e => e) fun _ _ e => e
    | succ k ih =>
      intro i h tk m₁ news₁ old hi hE₁ hI₁ hj hoff F₁ N₁
      have hlt' : i < items.length := by omega
      refine for_turn1 ?_
      have hsz1 : s.heap.objs.size + 1 < h.objs.size := Heap.lt_size hE₁
      refine pyNext_enumT_item hE₁ hI₁ (items := items.toArray) (x := items[i]) ⟨_, F₁.keep _ _ ht, rfl, nt, rfl⟩ (by simp [hlt']) (Nat.succ_ne_self _) fun h' ho hit hT hsz' hk' => ?_
      dsimp only
      refine wpAny_letOwnedTupleGo_enum ho fun h₂ he₂ hs₂ => ?_
      replace hs₂ : Heap.SameBut (s.heap.objs.size + 1) h' h₂ := hs₂
      obtain ⟨oi, hoi, hci, hdi⟩ := id hit
      have hTn : h.objs.size ≠ s.heap.objs.size + 1 := Nat.ne_of_gt hsz1
      have hT₂ : IsTup h₂ h.objs.size #[.int (i : Int) tk, items[i]] := ⟨_, hs₂.extBut _ _ hTn hT, rfl, _, rfl⟩
      have up : ∀ b x, b ≠ s.heap.objs.size + 1 → b ≠ s.heap.objs.size → h.get? b = some x → h₂.get? b = some x := fun b x h1 h2 e => hs₂.extBut _ _ h1 (hk' b x h1 h2 e)
      have hoi₂ : h₂.get? s.heap.objs.size = some oi := hs₂.extBut _ _ (Nat.ne_of_lt (Nat.lt_succ_self _)) hoi
      have F₂ : Fr g env.locals h₂ m₁ := ⟨F₁.ns.at' fun x e => up _ _ hL1 hL2 e, fun b x e => up _ _ (old0 b x e).1 (old0 b x e).2 (F₁.keep b x e), F₁.above⟩
      have hgn : ∀ a, s.heap.objs.size ≤ a → g.get? a = none := fun a ha => by
        cases e : g.get? a with
        | none => rfl
        | some x => exact absurd (Heap.lt_size (F.keep _ _ e)) (Nat.not_lt.mpr ha)
      have he₂' : ∃ oe : Obj, h₂.get? (s.heap.objs.size + 1) = some oe ∧ oe.cls = .type "enumerate" ∧ (∀ hh : Heap, hh.get? (s.heap.objs.size + 1) = some oe → IsEnum hh (s.heap.objs.size + 1) s.heap.objs.size ((i : Int) + 1) items[i]) := ⟨_, he₂, rfl, fun _ e => e⟩
      obtain ⟨oe, hoe, hce, hre⟩ := he₂'
      have N₂ : News g env.locals h₂ ((s.heap.objs.size + 1, oe) :: (s.heap.objs.size, oi) :: news₁) := fun p hp => by
        rcases List.mem_cons.mp hp with rfl | hp
        · exact ⟨hoe, Ne.symm hL1, hgn _ (Nat.le_succ _)⟩
        · rcases List.mem_cons.mp hp with rfl | hp
          · exact ⟨hoi₂, Ne.symm hL2, hgn _ (Nat.le_refl _)⟩
          · exact ⟨up _ _ (hoff p hp).1 (hoff p hp).2 (N₁ p hp).1, (N₁ p hp).2⟩
      refine wpAny_mono (turn i items[i] h.objs.size tk m₁ news₁ h₂ (tk + 1) oe oi (by simp [hlt']) hce hci hj hT₂ F₂ N₂) (fun _ s₂ h₃ => wpAny_mono h₃ (fun f s₃ p => ?_) fun _ _ e => e) fun _ _ e => e
      have fin : TEnd g env.locals [(s.heap.objs.size + 1, oe), (s.heap.objs.size, oi)] (J (i + 1)) { s with heap := h₂, toks := tk + 1 } s₃ → codeAny (model prog w) A (.forLoop (.Tuple elts k0 pos) (.ref (s.heap.objs.size + 1)) body orelse env) (fun r s' => match r with | .ok f => Q f s' | .error _ => False) s₃ := by
        rintro ⟨h₃, tk₃, m₃, news₃, rfl, F₃, N₃, off₃, j₃⟩
        have c1 : ((i + 1 : Nat) : Int) = (i : Int) + 1 := by push_cast; rfl
        refine ih (i + 1) h₃ tk₃ m₃ news₃ items[i] (by omega) ?_ ⟨oi, (N₃ _ (.tail _ (.head _))).1, hci, hdi⟩ j₃ (fun q hq => ⟨off₃ _ (.head _) q hq, off₃ _ (.tail _ (.head _)) q hq⟩) F₃ fun p hp => N₃ p (List.mem_append_right _ hp)
        rw [c1]
        exact hre _ (N₃ _ (.head _)).1
      cases f with
      | ret v => exact p
      | brk => exact p
      | next => exact fin p
      | cont => exact fin p
  refine key items.length 0 _ s.toks m news .none (by omega) hE hI j0 (fun q hq => ⟨Nat.ne_of_lt (Nat.lt_succ_of_lt (hlt q hq)), Nat.ne_of_lt (hlt q hq)⟩) (F.keeps hk) (N.grown hk)
end
end Mine

/-! Tab -/
namespace Mine
set_option Elab.async false
set_option linter.unusedVariables false
def Stop (P : Prop) : Prop := P
theorem Stop.out {P : Prop} (h : Stop P) : P := h
theorem unstop {P : Prop} (h : P) : Stop P := h
structure Ent where
  a : Addr
  bit : Int
  tb : Tok
  ch : Str
  tc : Tok
def rowsT : List (Addr × List Ent) :=
  [(50, [⟨43, 40960, 236, "l", 264⟩, ⟨44, 49152, 238, "s", 265⟩, ⟨45, 32768, 232, "-", 266⟩, ⟨46, 24576, 230, "b", 267⟩, ⟨47, 16384, 226, "d", 268⟩, ⟨48, 8192, 228, "c", 269⟩, ⟨49, 4096, 234, "p", 270⟩]),
   (52, [⟨51, 256, 246, "r", 271⟩]), (54, [⟨53, 128, 248, "w", 272⟩]), (58, [⟨55, 2112, 273, "s", 274⟩, ⟨56, 2048, 240, "S", 275⟩, ⟨57, 64, 250, "x", 276⟩]),
   (60, [⟨59, 32, 252, "r", 277⟩]), (62, [⟨61, 16, 254, "w", 278⟩]), (66, [⟨63, 1032, 279, "s", 280⟩, ⟨64, 1024, 242, "S", 281⟩, ⟨65, 8, 256, "x", 282⟩]),
   (68, [⟨67, 4, 258, "r", 283⟩]), (70, [⟨69, 2, 260, "w", 284⟩]), (74, [⟨71, 513, 285, "t", 286⟩, ⟨72, 512, 244, "T", 287⟩, ⟨73, 1, 262, "x", 288⟩])]
theorem rows_in {w : World} {g : Heap} (X : (hd.heap_39 w.params).In g) : ∀ r ∈ rowsT, g.IsTuple r.1 (r.2.map fun e => Value.ref e.a).toArray ∧ ∀ e ∈ r.2, IsTup g e.a #[.int e.bit e.tb, .str e.ch e.tc] := by
  intro r hr
  simp only [rowsT, List.mem_cons, List.not_mem_nil, or_false] at hr
  rcases hr with rfl | rfl | rfl | rfl | rfl | rfl | rfl | rfl | rfl | rfl
  all_goals refine ⟨⟨_, X _ _ rfl, rfl, _, rfl⟩, ?_⟩
  all_goals (intro e he; simp only [List.mem_cons, List.not_mem_nil, or_false] at he)
  all_goals (repeat' (first | (rcases he with rfl | he) | subst he))
  all_goals exact ⟨_, X _ _ rfl, rfl, _, rfl⟩
end Mine

/-! F3 -/
namespace Mine
set_option Elab.async false
set_option linter.unusedVariables false
local macro_rules | `(tactic| walk_at "exec For Tuple Call cons nil") => `(tactic| refine Stop.out ?_)
local macro_rules | `(tactic| walk_at "exec For Tuple Name cons") => `(tactic| refine Stop.out ?_)
local macro_rules | `(tactic| walk_at "call type:enumerate") => `(tactic| refine Stop.out ?_)
local macro_rules | `(tactic| walk_at "pyIter ref") => `(tactic| refine Stop.out ?_)
local macro_rules | `(tactic| k_room) => `(tactic| ((try simp only [depth_under_make, depth_under_kw, depth_in1, depth_deeper, depth_caller, recursionLimit]); omega))
local macro_rules | `(tactic| walk_at "TPost") => `(tactic| (dsimp only [TPost]))
noncomputable def hitB (n : Int) (i : Nat) (bit : Int) : Bool := if i = 0 then decide (Builtin.bitAnd n 61440 = bit) else decide (Builtin.bitAnd n bit = bit)
noncomputable def pick (n : Int) (i : Nat) : List Ent → Str
  | [] => if i = 0 then Str.ofString "?" else Str.ofString "-"
  | e :: r => if hitB n i e.bit then e.ch else pick n i r
noncomputable def rowChar (n : Int) (i : Nat) : Str := pick n i (rowsT.getD i (0, [])).2
noncomputable def chars (n : Int) (i : Nat) : List Str := (List.range i).map (rowChar n)
noncomputable def fm (n : Int) : Str := Txt.join (Str.ofString "") (chars n 10)
def mF (n : Int) (t : Tok) (pl : Addr) (u : Str → Option Value) : Str → Option Value := fun y => if y = Str.ofString "perm" then some (.ref pl) else if y = Str.ofString "mode" then some (.int n t) else u y
theorem mF_of {m : Str → Option Value} {n t pl} (h1 : m (Str.ofString "perm") = some (.ref pl)) (h2 : m (Str.ofString "mode") = some (.int n t)) : m = mF n t pl m := by
  funext y
  unfold mF
  split
  · rename_i e; rw [e, h1]
  · split
    · rename_i e; rw [e, h2]
    · rfl
def mI (n : Int) (t : Tok) (pl : Addr) (i : Nat) (ti : Tok) (u : Str → Option Value) : Str → Option Value := fun y => if y = Str.ofString "index" then some (.int i ti) else if y = Str.ofString "perm" then some (.ref pl) else if y = Str.ofString "mode" then some (.int n t) else u y
theorem mI_of {m : Str → Option Value} {n t pl} {i : Nat} {ti} (h0 : m (Str.ofString "index") = some (.int i ti)) (h1 : m (Str.ofString "perm") = some (.ref pl)) (h2 : m (Str.ofString "mode") = some (.int n t)) : m = mI n t pl i ti m := by
  funext y
  unfold mI
  split
  · rename_i e; rw [e, h0]
  · split
    · rename_i e; rw [e, h1]
    · split
      · rename_i e; rw [e, h2]
      · rfl
theorem pick_hit {n : Int} {i : Nat} : ∀ {es : List Ent} {j : Nat} (hj : j < es.length), (∀ e ∈ es.take j, hitB n i e.bit = false) → hitB n i es[j].bit = true → pick n i es = es[j].ch
  | [], j, hj, _, _ => absurd hj (Nat.not_lt_zero _)
  | e :: r, 0, _, _, h => by
    have h' : hitB n i e.bit = true := h
    show (if hitB n i e.bit then e.ch else pick n i r) = e.ch
    rw [h']; rfl
  | e :: r, j + 1, hj, hm, h => by
    have h0 : hitB n i e.bit = false := hm e (by simp)
    have := pick_hit (es := r) (j := j) (by simpa using hj) (fun e' he' => hm e' (by simp [he'])) (by simpa using h)
    show (if hitB n i e.bit then e.ch else pick n i r) = _
    rw [h0, this]
    simp
theorem pick_none {n : Int} {i : Nat} : ∀ {es : List Ent}, (∀ e ∈ es.take es.length, hitB n i e.bit = false) → pick n i es = if i = 0 then Str.ofString "?" else Str.ofString "-"
  | [], _ => rfl
  | e :: r, hm => by
    have h0 : hitB n i e.bit = false := hm e (by simp)
    have := pick_none (n := n) (i := i) (es := r) (fun e' he' => hm e' (by simp at he'; simp [he']))
    show (if hitB n i e.bit then e.ch else pick n i r) = _
    rw [h0, this]
    simp
theorem chars_len (n : Int) (i : Nat) : (chars n i).length = i := by simp [chars]
theorem chars_succ {n : Int} {i : Nat} (hi : i < rowsT.length) {c : Str} (h : pick n i rowsT[i].2 = c) : chars n (i + 1) = chars n i ++ [c] := by
  unfold chars
  rw [List.range_succ, List.map_append]
  have : rowChar n i = c := by
    unfold rowChar
    rw [List.getD_eq_getElem?_getD, List.getElem?_eq_getElem hi]
    exact h
  simp [this]
theorem strs_push {vs : List Value} {xs : List Str} {c : Str} {t : Tok} (h : StrsAre vs xs) : StrsAre (vs ++ [.str c t]) (xs ++ [c]) := StrsAre.append' h (.cons c t .nil)
theorem miss_succ {n : Int} {i j : Nat} {es : List Ent} (hj : j < es.length) (hm : ∀ e ∈ es.take j, hitB n i e.bit = false) (h : hitB n i es[j].bit = false) : ∀ e ∈ es.take (j + 1), hitB n i e.bit = false := by
  intro e he
  rw [List.take_add_one, List.getElem?_eq_getElem hj] at he
  rcases List.mem_append.mp he with q | q
  · exact hm e q
  · simp at q; subst q; exact h
theorem news_drop1 {h₀ h : Heap} {L : Addr} {p : Addr × Obj} {news : List (Addr × Obj)} (N : News h₀ L h (p :: news)) : News h₀ L h news := fun q hq => N q (.tail _ hq)
theorem pick_len {n : Int} {i : Nat} : ∀ {es : List Ent}, (∀ e ∈ es, e.ch.length = 1) → (pick n i es).length = 1
  | [], _ => by
    show (if i = 0 then Str.ofString "?" else Str.ofString "-").length = 1
    split <;> decide
  | e :: r, h => by
    show (if hitB n i e.bit then e.ch else pick n i r).length = 1
    split
    · exact h e (.head _)
    · exact pick_len fun e' he' => h e' (.tail _ he')
theorem rows_len : ∀ r ∈ rowsT, ∀ e ∈ r.2, e.ch.length = 1 := by decide
theorem rowChar_len (n : Int) (i : Nat) : (rowChar n i).length = 1 := by
  unfold rowChar
  refine pick_len fun e he => ?_
  rw [List.getD_eq_getElem?_getD] at he
  cases h : rowsT[i]? with
  | none => rw [h] at he; cases he
  | some r =>
    rw [h] at he
    exact rows_len r (List.mem_of_getElem? h) e he
theorem chars_weight (n : Int) : ((chars n 10).map (·.length)).sum + (chars n 10).length ≤ 1048576 := by
  have e : (chars n 10).map (·.length) = (List.range 10).map fun _ => 1 := by
    unfold chars
    rw [List.map_map]
    exact List.map_congr_left fun i _ => rowChar_len n i
  rw [e, chars_len]
  decide
local macro_rules | `(tactic| walk_at "call builtin:list.append") => `(tactic| (k_here; (show wpAny _ _ (call (Value.builtin _) [Value.ref _, _]) _ _ _); k_dflt (refine' append_K ?k1 ?k2 ?k3 ?_ ?z; (case k1 => k_asm); (case k2 => k_asm); (case k3 => k_upd); (case z => size_fits); k_whole); intro h' F' N'; (try k_sweep)))
local macro_rules | `(tactic| size_fits) => `(tactic| assumption)
set_option maxRecDepth 100000 in
set_option maxHeartbeats 8000000 in
theorem filemode_ok (w : World) (loose : List Str) (mean : ExcName → Option Value) (mg mb : Str → Option Value) (n : Int) (t : Tok)
   (dp un gd cn cs a ccd cl outer A₀ base h₀ L m s Q) (B : Below A₀ base outer h₀) (F : Fr h₀ L s.heap m) (X : (hd.heap_39 w.params).In h₀) (T : Top topProg loose mean mg mb h₀) (hk : cs.kind = .function)
   (hdp : dp + 20 < 1000) (hun : un + 100 < 9900) (hret : ∀ t h' tk', Fr h₀ L h' m → (∀ b o, s.heap.get? b = some o → h'.get? b = some o) → Q (.str (fm n) t) { s with heap := h', toks := tk' }) :
   wpAny (model PySem.Challenge.rw_mq0191_01.row.prog w) (ktrTop dp un gd cn cs L a ccd cl outer) (call (.ref 82) [.int n t]) Q (fun _ _ => False) s := by
  w_on
  revert X
  k_fill
  intro X
  w_top on
  have N : News h₀ L s.heap [] := News.nil
  refine wpAny_call ?_
  k_dflt (refine' code_defG ?k1 ?k2 ?k3 ?k4 ?k5 ?kA ?kF ?kK ?k6 ?k7 ?k8 ?k9 ?kB ?_ ?c2 ?c3 ?c4 ?c5; (case kA => exact rfl); (case kF => exact rfl); (case kK => assumption); (case k1 => k_asm); (case k2 => k_asm); (case k3 => k_asm); (case k4 => k_asm); (case k5 => k_asm); (case k6 => k_is); (case k7 => k_is); (case k8 => k_room); (case k9 => exact BindsTo.of_eq rfl); (case c5 => decide); (case kB => exact locs rfl); (case c2 => exact rfl); (case c3 => exact rfl); (case c4 => exact rfl); k_whole)
  intro g' L' h' FG' F' N' B' X' T' GS'
  refine wpAny_noRaise ?_
  dsimp only
  k_steps
  refine unstop (for_start ?_)
  k_steps
  rename_i pl h1 _ h2 F2 N2
  refine unstop (for_enumT (t := 75) (items := rowsT.map fun r => Value.ref r.1) (nt := 0) rfl F2 N2 (X' _ _ rfl) ?_)
  intro I hI
  have hI' : @LT.lt Nat _ pl I := hI _ (.head _)
  refine ⟨fun i m₁ news₁ => (∃ u, m₁ = mF n t pl u) ∧ ∃ vs k, StrsAre vs (chars n i) ∧ news₁ = [(pl, W.listOf vs.toArray k)], ⟨⟨_, mF_of rfl rfl⟩, [], 0, StrsAre.nil, rfl⟩, ?_, ?_⟩
  · rintro i v T0 tk0 m₁ news₁ h3 tk3 oe oi hv hoe hoi ⟨⟨u, rfl⟩, vs, k, hvs, rfl⟩ hT0 F3 N3
    have hil : i < rowsT.length := by
      have := (List.getElem?_eq_some_iff.mp hv).1
      simpa using this
    have hv' : v = .ref rowsT[i].1 := by
      have := (List.getElem?_eq_some_iff.mp hv).2
      simpa using this.symm
    subst hv'
    have hr := rows_in X' rowsT[i] (List.getElem_mem hil)
    have hvl : vs.length = i := hvs.length.trans (chars_len n i)
    have hsz : vs.toArray.size ≤ sizeLine := by
      have : rowsT.length = 10 := rfl
      rw [List.size_toArray, sizeLine_eq]; omega
    clear F2 N2
    k_steps
    refine unstop (for_start ?_)
    k_steps
    rename Fr _ _ _ _ => F5; rename News _ _ _ _ => N5
    refine unstop (for_tup (g := g') (t := rowsT[i].1) (items := rowsT[i].2.map fun e => Value.ref e.a) rfl F5 N5 hr.1 ?_)
    intro J0 hJ0
    have hJ1 : @LT.lt Nat _ (I + 1) J0 := hJ0 _ (.head _)
    refine ⟨fun j m₁ news₁ => (∃ u, m₁ = mI n t pl i tk0 u) ∧ (∀ e ∈ rowsT[i].2.take j, hitB n i e.bit = false) ∧ news₁ = [(I + 1, oe), (I, oi), (pl, W.listOf vs.toArray k)], ⟨⟨_, mI_of rfl rfl rfl⟩, by simp, rfl⟩, ?_, ?_⟩
    · rintro j v m₁ news₁ h6 tk6 oj hv hoj ⟨⟨u, rfl⟩, hmiss, rfl⟩ F6 N6
      have hjl : j < rowsT[i].2.length := by
        have := (List.getElem?_eq_some_iff.mp hv).1
        simpa using this
      have hv' : v = .ref rowsT[i].2[j].a := by
        have := (List.getElem?_eq_some_iff.mp hv).2
        simpa using this.symm
      subst hv'
      have hTe := IsTup.keeps (hr.2 _ (List.getElem_mem hjl)) F6.keep
      generalize he : rowsT[i].2[j] = e at hTe
      clear F5 N5
      k_steps
      all_goals (rename Fr _ _ _ _ => F7; rename News _ _ _ _ => N7)
      · have hb : hitB n i e.bit = true := by unfold hitB; rw [if_pos (by omega)]; exact decide_eq_true (by assumption)
        have hp := pick_hit hjl hmiss (by rw [he]; exact hb)
        rw [he] at hp
        have N9 := news_drop1 N7
        refine TEnd.intro (its := [(I + 1, oe), (I, oi)]) F7 (news' := [(pl, W.listOf (vs ++ [Value.str e.ch e.tc]).toArray (k + 1))]) (by simp only [List.push_toArray] at N9; exact N9) ?_ ⟨⟨_, mF_of rfl rfl⟩, _, _, by rw [chars_succ hil hp]; exact strs_push hvs, rfl⟩
        intro p hp q hq; simp at hp hq; rcases hp with rfl | rfl <;> subst hq <;> (refine neN ?_; dsimp only; omega)
      · have hb : hitB n i e.bit = false := by unfold hitB; rw [if_pos (by omega)]; exact decide_eq_false (by assumption)
        refine TEnd.intro (its := [(J0, oj)]) F7 (news' := [(I + 1, oe), (I, oi), (pl, W.listOf vs.toArray k)]) N7 ?_ ⟨⟨_, mI_of rfl rfl rfl⟩, miss_succ hjl hmiss (by rw [he]; exact hb), rfl⟩
        intro p hp q hq; simp at hp hq; subst hp; rcases hq with rfl | rfl | rfl <;> (refine neN ?_; dsimp only; omega)
      · have hb : hitB n i e.bit = true := by unfold hitB; rw [if_neg (by omega)]; exact decide_eq_true (by assumption)
        have hp := pick_hit hjl hmiss (by rw [he]; exact hb)
        rw [he] at hp
        have N9 := news_drop1 N7
        refine TEnd.intro (its := [(I + 1, oe), (I, oi)]) F7 (news' := [(pl, W.listOf (vs ++ [Value.str e.ch e.tc]).toArray (k + 1))]) (by simp only [List.push_toArray] at N9; exact N9) ?_ ⟨⟨_, mF_of rfl rfl⟩, _, _, by rw [chars_succ hil hp]; exact strs_push hvs, rfl⟩
        intro p hp q hq; simp at hp hq; rcases hp with rfl | rfl <;> subst hq <;> (refine neN ?_; dsimp only; omega)
      · have hb : hitB n i e.bit = false := by unfold hitB; rw [if_neg (by omega)]; exact decide_eq_false (by assumption)
        refine TEnd.intro (its := [(J0, oj)]) F7 (news' := [(I + 1, oe), (I, oi), (pl, W.listOf vs.toArray k)]) N7 ?_ ⟨⟨_, mI_of rfl rfl rfl⟩, miss_succ hjl hmiss (by rw [he]; exact hb), rfl⟩
        intro p hp q hq; simp at hp hq; subst hp; rcases hq with rfl | rfl | rfl <;> (refine neN ?_; dsimp only; omega)
    · rintro m₁ news₁ h6 tk6 ⟨⟨u, rfl⟩, hmiss, rfl⟩ F6 N6
      rw [List.length_map] at hmiss
      have hp := pick_none hmiss
      clear F5 N5
      k_steps
      all_goals (rename Fr _ _ _ _ => F7; rename News _ _ _ _ => N7)
      · rw [if_pos (by omega)] at hp
        refine TEnd.intro (its := [(I + 1, oe), (I, oi)]) F7 (news' := [(pl, W.listOf (vs ++ [Value.str (Str.ofString "?") _]).toArray (k + 1))]) (by simp only [List.push_toArray] at N7; exact N7) ?_ ⟨⟨_, mF_of rfl rfl⟩, _, _, by rw [chars_succ hil hp]; exact strs_push hvs, rfl⟩
        intro p hp q hq; simp at hp hq; rcases hp with rfl | rfl <;> subst hq <;> (refine neN ?_; dsimp only; omega)
      · rw [if_neg (by omega)] at hp
        refine TEnd.intro (its := [(I + 1, oe), (I, oi)]) F7 (news' := [(pl, W.listOf (vs ++ [Value.str (Str.ofString "-") _]).toArray (k + 1))]) (by simp only [List.push_toArray] at N7; exact N7) ?_ ⟨⟨_, mF_of rfl rfl⟩, _, _, by rw [chars_succ hil hp]; exact strs_push hvs, rfl⟩
        intro p hp q hq; simp at hp hq; rcases hp with rfl | rfl <;> subst hq <;> (refine neN ?_; dsimp only; omega)
  · rintro m₁ news₁ h6 tk6 ⟨⟨u, rfl⟩, vs, k, hvs, rfl⟩ F6 N6
    clear F2 N2
    have hvs' : StrsAre vs (chars n 10) := hvs
    have hl : h6.IsList pl vs.toArray := ⟨_, (N6 _ (.head _)).1, rfl, _, rfl⟩
    k_steps
    refine join_listW (D := pl) (items := vs.toArray) (ys := chars n 10) hl (by simpa using hvs') (by decide) (chars_weight n) fun t' k' => ?_
    dsimp only
    k_steps
    rename Fr _ _ _ _ => F9
    refine hret _ _ _ F9 fun b o e => ?_
    exact F6.keep b o (GS' b o e (by simp))

end Mine

/-! C1 -/
namespace Mine
set_option Elab.async false
set_option linter.unusedVariables false
local macro_rules | `(tactic| k_room) => `(tactic| ((try simp only [depth_under_make, depth_under_kw, depth_in1, depth_deeper, depth_caller, recursionLimit]); omega))
local macro_rules | `(tactic| walk_at "MINE enter") => `(tactic| (refine wpAny_call ?_; k_dflt (refine' code_defG ?k1 ?k2 ?k3 ?k4 ?k5 ?kA ?kF ?kK ?k6 ?k7 ?k8 ?k9 ?kB ?_ ?c2 ?c3 ?c4 ?c5; (case kA => exact rfl); (case kF => exact rfl); (case kK => assumption); (case k1 => k_asm); (case k2 => k_asm); (case k3 => k_asm); (case k4 => k_asm); (case k5 => k_asm); (case k6 => k_is); (case k7 => k_is); (case k8 => k_room); (case k9 => exact BindsTo.of_eq rfl); (case c5 => decide); (case kB => exact locs rfl); (case c2 => exact rfl); (case c3 => exact rfl); (case c4 => exact rfl); k_whole)))
local macro_rules | `(tactic| walk_at "MINE fill") => `(tactic| (w_on; (rename Frag.In _ _ => X0); revert X0; k_fill; intro X; w_top on))
section
variable {h₀ h' : Heap} {L : Addr} {m : Str → Option Value} {s : Shared} {Q : Value → Shared → Prop} {t : Tok} {tk' : Nat}
theorem ret_S {x y : Str} (hret : ∀ t h' tk', Fr h₀ L h' m → (∀ b o, s.heap.get? b = some o → h'.get? b = some o) → Q (.str x t) { s with heap := h', toks := tk' }) (e : y = x) (F : Fr h₀ L h' m) (k : ∀ b o, s.heap.get? b = some o → h'.get? b = some o) :
    Q (.str y t) { s with heap := h', toks := tk' } := by subst e; exact hret t h' tk' F k
theorem ret_I {x y : Int} (hret : ∀ t h' tk', Fr h₀ L h' m → (∀ b o, s.heap.get? b = some o → h'.get? b = some o) → Q (.int x t) { s with heap := h', toks := tk' }) (e : y = x) (F : Fr h₀ L h' m) (k : ∀ b o, s.heap.get? b = some o → h'.get? b = some o) :
    Q (.int y t) { s with heap := h', toks := tk' } := by subst e; exact hret t h' tk' F k
end
def preF (n : Int) : Int := if (n - 3).fdiv 2 > 0 then (n - 3).fdiv 2 else 0
def postF (n : Int) : Int := if n - 3 - preF n > 0 then n - 3 - preF n else 0
noncomputable def cramF (x : Str) (n : Int) : Str := if n < 20 then Txt.slice x none (some (preF n)) ++ Str.ofString "..." ++ Txt.slice x (some (20 - postF n)) none else x
theorem cramF_lt {x : Str} {n : Int} (hx : x.length = 20) (h : n < 20) : Txt.slice x none (some (if (n - 3).fdiv 2 > 0 then (n - 3).fdiv 2 else 0)) ++ Str.ofString "..." ++ Txt.slice x (some ((x.length : Int) - if (n - 3 - if (n - 3).fdiv 2 > 0 then (n - 3).fdiv 2 else 0) > 0 then n - 3 - if (n - 3).fdiv 2 > 0 then (n - 3).fdiv 2 else 0 else 0)) none = cramF x n := by
  rw [hx]
  exact (if_pos h).symm
set_option maxRecDepth 100000 in
set_option maxHeartbeats 8000000 in
theorem cram_ok (w : World) (loose : List Str) (mean : ExcName → Option Value) (mg mb : Str → Option Value) (x : Str) (n : Int) (t t0 : Tok) (hx : x.length = 20)
   (dp un gd cn cs a ccd cl outer A₀ base h₀ L m s Q) (B : Below A₀ base outer h₀) (F : Fr h₀ L s.heap m) (X : (hd.heap_39 w.params).In h₀) (T : Top topProg loose mean mg mb h₀) (hk : cs.kind = .function)
   (hdp : dp + 20 < 1000) (hun : un + 100 < 9900) (hret : ∀ t h' tk', Fr h₀ L h' m → (∀ b o, s.heap.get? b = some o → h'.get? b = some o) → Q (.str (cramF x n) t) { s with heap := h', toks := tk' }) :
   wpAny (model PySem.Challenge.rw_mq0191_01.row.prog w) (ktrTop dp un gd cn cs L a ccd cl outer) (call (.ref 21) [.str x t0, .int n t]) Q (fun _ _ => False) s := by
  walk_at "MINE fill"
  have N : News h₀ L s.heap [] := News.nil
  walk_at "MINE enter"
  intro g' L' h' FG' F' N' B' X' T' GS'
  refine wpAny_noRaise ?_
  dsimp only
  k_steps
  all_goals (rename Fr g' _ _ _ => F9; rename Fr h₀ _ _ _ => kF)
  · refine ret_S (Q := Q) hret ?_ kF fun b o e => F9.keep b o (GS' b o e (by simp))
    exact cramF_lt hx (by omega)
  · refine ret_S (Q := Q) hret ?_ kF fun b o e => F9.keep b o (GS' b o e (by simp))
    unfold cramF
    rw [if_neg (by omega)]
noncomputable def kindF (n : Int) : Int := if (Builtin.bitAnd n 61440).fdiv 4096 ∈ ([1, 2, 4, 6, 8, 10, 12] : List Int) then (Builtin.bitAnd n 61440).fdiv 4096 else 0
set_option maxRecDepth 100000 in
set_option maxHeartbeats 8000000 in
theorem kind_ok (w : World) (loose : List Str) (mean : ExcName → Option Value) (mg mb : Str → Option Value) (n : Int) (t : Tok)
   (dp un gd cn cs a ccd cl outer A₀ base h₀ L m s Q) (B : Below A₀ base outer h₀) (F : Fr h₀ L s.heap m) (X : (hd.heap_39 w.params).In h₀) (T : Top topProg loose mean mg mb h₀) (hk : cs.kind = .function)
   (hdp : dp + 20 < 1000) (hun : un + 100 < 9900) (hret : ∀ t h' tk', Fr h₀ L h' m → (∀ b o, s.heap.get? b = some o → h'.get? b = some o) → Q (.int (kindF n) t) { s with heap := h', toks := tk' }) :
   wpAny (model PySem.Challenge.rw_mq0191_01.row.prog w) (ktrTop dp un gd cn cs L a ccd cl outer) (call (.ref 101) [.int n t]) Q (fun _ _ => False) s := by
  walk_at "MINE fill"
  have N : News h₀ L s.heap [] := News.nil
  walk_at "MINE enter"
  intro g' L' h' FG' F' N' B' X' T' GS'
  refine wpAny_noRaise ?_
  dsimp only
  k_steps
  all_goals (rename Fr g' _ _ _ => F9; rename Fr h₀ _ _ _ => kF; rename (List.any _ _ = _) => hin)
  · refine ret_I (Q := Q) hret ?_ kF fun b o e => F9.keep b o (GS' b o e (by simp))
    unfold kindF
    rw [if_pos (by rw [List.any_eq_true] at hin; obtain ⟨z, hz, e⟩ := hin; rw [← eq_of_beq e]; exact hz)]
  · refine ret_I (Q := Q) hret ?_ kF fun b o e => F9.keep b o (GS' b o e (by simp))
    unfold kindF
    rw [if_neg (fun hz => by rw [List.any_eq_false] at hin; exact hin _ hz (beq_self_eq_true _))]

end Mine

/-! K1 -/
namespace Mine
set_option Elab.async false
set_option linter.unusedVariables false
set_option maxRecDepth 100000
section
variable {prog : Program} {w : World} {A₀ A : Around} {s : Shared} {base h₀ : Heap} {outer : List Env} {L : Addr} {m mg mb : Str → Option Value} {env : Env} {news : List (Addr × Obj)} {K : Frag} {p : Program} {loose : List Str} {mean : ExcName → Option Value}
theorem code_defCG {R : Result → Shared → Prop} {name qual : Str} {params : Arguments} {body : List Stmt} {scope : Scope} {dV kV doc pm cdv ct oc : Value} {an od : Option Addr} {osl : Array (Option Value)} {f : Addr} {args : Args} {binds : List (Str × Value)}
    (B : Below A₀ base outer h₀) (F : Fr h₀ L s.heap m) (X₀ : K.In h₀) (N : News h₀ L s.heap news) (T : Top p loose mean mg mb h₀) (hA : A.frames = some (env :: outer)) (hf : env.frame = some L) (hke : env.scope.kind = .function)
    (ho : K.lookup f = some ⟨oc, od, .func (fnOf name qual params body scope dV kV doc pm an cdv ct), osl⟩) (hcd : codeIn K cdv qual = true) (hroom : A.depth < recursionLimit)
    (hbind : BindsTo s (fnOf name qual params body scope dV kV doc pm an cdv ct) args binds) (hkind : (binds.all fun y => scope.names.lookup y.1 == some .local || scope.names.lookup y.1 == some .cell) = true)
    (hnd : ((cellsFrom 0 scope.names []).map (·.1)).Nodup)
    (h : ∀ g L' h₁ tk cells, Fr h₀ L g m → Fr g L' h₁ (bindL (envOfC qual scope L' f cdv).kindOf binds fun _ => none) → News g L' h₁ (cells ++ news) →
      CellsAre (bindC (envOfC qual scope L' f cdv).kindOf binds fun _ => none) (cellsFrom (L' + 1) scope.names []) cells → Below A base (env :: outer) g → K.In g → Top p loose mean mg mb g → (∀ p ∈ news, p.1 < L') → GSub s.heap g (news.map (·.1)) →
      wpAny (model prog w) (A.deeper (envOfC qual scope L' f cdv)) (execs body (envOfC qual scope L' f cdv))
        (fun fl s' => LeaveK h₀ L m g R (match fl with | .ret v => v | _ => .none) s')
        (fun e s' => wpAny (model prog w) (A.deeper (envOfC qual scope L' f cdv)) (leaving (envOfC qual scope L' f cdv) e) (fun _ s'' => R (.error e) s'') (fun e' s'' => R (.error e') s'') s')
        { s with heap := h₁, toks := tk })
    (hco : scope.isCoroutine = false) (hgen : scope.isGenerator = false) (hk : scope.kind = .function) : codeAny (model prog w) A (.call (.ref f) args) R s := by
  obtain ⟨FG, BG, st, lv⟩ := groundX (R := R) B F N hA hf hke
  refine codeAny_call_function hroom ((X₀.keeps F.keep) _ _ ho) rfl hco hgen rfl (codeRec_of (X₀.keeps F.keep) hcd) (hbind _ _ _ _ ?_)
  refine wpAny_newFunctionEnv_cells hk (kindsX hkind _) fun env' he s' x => ?_
  subst he
  refine ⟨(T.nolimit.keeps F.keep).keeps x.toInCall.keep, codeAny_func ?_⟩
  obtain ⟨h₁, tk, rfl, _⟩ := x.done
  have hk₁ := x.toInCall.keep
  obtain ⟨cells, NC, Y⟩ := Cl.news (h₀ := s.heap) (Nat.le_refl _) fun n c hm => ⟨x.cell n c (lookup_of_mem_nodup (cellsFrom_names scope.names 0 (s.heap.objs.size + 1) [] [] rfl ▸ hnd) hm), x.above n c hm⟩
  refine wpAny_mono (h _ s.heap.objs.size h₁ tk cells FG ⟨x.toInCall.ns, fun b o e => hk₁ b o (of_hideAll _ e), Nat.le_of_eq (hideAll_size _ _)⟩ (fun p hp => ?_) Y BG (X₀.keeps st) (T.keeps st) (fun p hp => Heap.lt_size (N p hp).1) (fun b o e n => hideAll_get _ e n)) (fun fl s' hl => lv _ _ hl) fun _ _ y => y
  rcases List.mem_append.mp hp with hp | hp
  · refine ⟨(NC p hp).1, (NC p hp).2.1, ?_⟩
    cases q : (hideAll s.heap (news.map (·.1))).get? p.1 with
    | none => rfl
    | some o => have := of_hideAll _ q; rw [(NC p hp).2.2] at this; cases this
  · exact ⟨hk₁ _ _ (N p hp).1, Nat.ne_of_lt (Heap.lt_size (N p hp).1), hideAll_none _ (List.mem_map_of_mem hp)⟩
end
end Mine

/-! U1 -/
namespace Mine
set_option Elab.async false
set_option linter.unusedVariables false
local macro_rules | `(tactic| k_room) => `(tactic| ((try simp only [depth_under_make, depth_under_kw, depth_in1, depth_deeper, depth_caller, recursionLimit]); omega))
local macro_rules | `(tactic| walk_at "MINE enterC") => `(tactic| (refine wpAny_call ?_; k_dflt (refine' code_defCG ?k1 ?k2 ?k3 ?k4 ?k5 ?kA ?kF ?kK ?k6 ?k7 ?k8 ?k9 ?kB ?kD ?_ ?c2 ?c3 ?c4; (case kA => exact rfl); (case kF => exact rfl); (case kK => assumption); (case k1 => k_asm); (case k2 => k_asm); (case k3 => k_asm); (case k4 => k_asm); (case k5 => k_asm); (case k6 => k_is); (case k7 => k_is); (case k8 => k_room); (case k9 => exact BindsTo.of_eq rfl); (case kB => exact rfl); (case kD => decide +kernel); (case c2 => exact rfl); (case c3 => exact rfl); (case c4 => exact rfl); k_whole)))
local macro_rules | `(tactic| walk_at "MINE fill") => `(tactic| (w_on; (rename Frag.In _ _ => X0); revert X0; k_fill; intro X; w_top on))
section
variable {w : World} {loose : List Str} {mean : ExcName → Option Value} {mg mb : Str → Option Value} {dp un : Nat} {gd : Option (List Code)} {cn : Str} {cs : Scope} {a : Addr} {ccd : Value} {cl : List (Str × Addr)} {outer : List Env} {A₀ : Around} {base h₀ : Heap} {L : Addr} {m : Str → Option Value} {s : Shared} {Q E : Value → Shared → Prop} {news : List (Addr × Obj)}
theorem kind_use {n : Int} {t : Tok} (B : Below A₀ base outer h₀) (F : Fr h₀ L s.heap m) (X : (hd.heap_39 w.params).In h₀) (T : Top topProg loose mean mg mb h₀) (N : News h₀ L s.heap news) (hk : cs.kind = .function)
    (hdp : dp + 20 < 1000) (hun : un + 100 < 9900) (hret : ∀ t h' tk', Fr h₀ L h' m → News h₀ L h' news → Q (.int (kindF n) t) { s with heap := h', toks := tk' }) :
    wpAny (model PySem.Challenge.rw_mq0191_01.row.prog w) (ktrTop dp un gd cn cs L a ccd cl outer) (call (.ref 101) [.int n t]) Q E s :=
  wpAny_noRaise (kind_ok w loose mean mg mb n t dp un gd cn cs a ccd cl outer A₀ base h₀ L m s Q B F X T hk hdp hun fun t' h' tk' F' hk' => hret t' h' tk' F' (N.grown hk'))
end
local macro_rules | `(tactic| walk_at "MINE dp") => `(tactic| ((try simp only [depth_under_make, depth_under_kw, depth_in1, depth_deeper, depth_caller, Around.deeper_units]); omega))
local macro_rules | `(tactic| walk_at "call ref") => `(tactic| (k_here; (with_reducible show wpAny _ _ (call (Value.ref 101) [Value.int _ _]) _ _ _); k_dflt (refine' kind_use ?k1 ?k2 ?k3 ?k4 ?k5 ?k6 ?k7 ?k8 ?_; (case k1 => k_asm); (case k2 => k_asm); (case k3 => k_asm); (case k4 => k_asm); (case k5 => k_asm); (case k6 => first | exact rfl | assumption); (case k7 => walk_at "MINE dp"); (case k8 => walk_at "MINE dp"); k_whole); intro t9 h9 tk9 F9 N9; (try dsimp only); (try k_sweep); (try k_fold)))
noncomputable def unlikeP (n1 n2 : Int) : List Int := List.foldl (fun l' k' => if ¬Builtin.bitAnd (Builtin.bitAnd (Builtin.bitXor n1 n2) 4095) (([256, 128, 2112, 32, 16, 1032, 4, 2, 513] : List Int).getD k'.toNat 0) = 0 then l' ++ [k' + 1] else l') [] (rangeKs 0 (9 - 0 : Int).toNat)
noncomputable def unlikeL (n1 n2 : Int) : List Int := if kindF n1 = kindF n2 then unlikeP n1 n2 else [0] ++ unlikeP n1 n2
set_option maxRecDepth 100000 in
set_option maxHeartbeats 8000000 in
theorem unlike_ok (w : World) (loose : List Str) (mean : ExcName → Option Value) (mg mb : Str → Option Value) (n1 n2 : Int) (t1 t2 : Tok)
   (dp un gd cn cs a ccd cl outer A₀ base h₀ L m s Q) (B : Below A₀ base outer h₀) (F : Fr h₀ L s.heap m) (X : (hd.heap_39 w.params).In h₀) (T : Top topProg loose mean mg mb h₀) (hk : cs.kind = .function)
   (hdp : dp + 22 < 1000) (hun : un + 200 < 9900)
   (hret : ∀ D ws k h' tk', Fr h₀ L h' m → (∀ b o, s.heap.get? b = some o → h'.get? b = some o) → h'.get? D = some (W.listOf ws.toArray k) → s.heap.get? D = none → IntsAre ws (unlikeL n1 n2) → Q (.ref D) { s with heap := h', toks := tk' }) :
   wpAny (model PySem.Challenge.rw_mq0191_01.row.prog w) (ktrTop dp un gd cn cs L a ccd cl outer) (call (.ref 106) [.int n1 t1, .int n2 t2]) Q (fun _ _ => False) s := by
  walk_at "MINE fill"
  have N : News h₀ L s.heap [] := News.nil
  walk_at "MINE enterC"
  intro g' L' h' tk' cells' FG' F' N' Y' B' X' T' l1 GS'
  k_cells Y'
  simp only [List.cons_append, List.nil_append] at N'
  refine wpAny_noRaise ?_
  (try dsimp only)
  k_steps
  all_goals (rename Fr g' _ _ _ => F9; rename Fr h₀ _ _ _ => kF; rename News g' _ _ _ => N9)
  all_goals have keep : ∀ b o, s.heap.get? b = some o → _ := fun b o e => F9.keep b o (GS' b o e (by simp))
  · have hD := N9 _ (.head _)
    rename IntsAre _ _ => hI
    refine hret _ _ _ _ _ kF keep hD.1 ?_ ?_
    · cases e : s.heap.get? _ with
      | none => rfl
      | some o => rw [GS' _ _ e (by simp)] at hD; cases hD.2.2
    · unfold unlikeL
      rw [if_pos (by assumption)]
      exact hI
  · have hD := N9 _ (.head _)
    rename IntsAre _ _ => hI
    refine hret _ _ _ _ _ kF keep hD.1 ?_ ?_
    · cases e : s.heap.get? _ with
      | none => rfl
      | some o => rw [GS' _ _ e (by simp)] at hD; cases hD.2.2
    · unfold unlikeL
      rw [if_neg (by assumption)]
      exact hI
end Mine

/-! L0 -/
namespace Mine
set_option Elab.async false
set_option linter.unusedVariables false
local macro_rules | `(tactic| k_room) => `(tactic| ((try simp only [depth_under_make, depth_under_kw, depth_in1, depth_deeper, depth_caller, recursionLimit]); omega))
local macro_rules | `(tactic| walk_at "MINE enterC") => `(tactic| (refine wpAny_call ?_; k_dflt (refine' code_defCG ?k1 ?k2 ?k3 ?k4 ?k5 ?kA ?kF ?kK ?k6 ?k7 ?k8 ?k9 ?kB ?kD ?_ ?c2 ?c3 ?c4; (case kA => exact rfl); (case kF => exact rfl); (case kK => assumption); (case k1 => k_asm); (case k2 => k_asm); (case k3 => k_asm); (case k4 => k_asm); (case k5 => k_asm); (case k6 => k_is); (case k7 => k_is); (case k8 => k_room); (case k9 => exact BindsTo.of_eq rfl); (case kB => exact rfl); (case kD => decide +kernel); (case c2 => exact rfl); (case c3 => exact rfl); (case c4 => exact rfl); k_whole)))
local macro_rules | `(tactic| walk_at "MINE fill") => `(tactic| (w_on; (rename Frag.In _ _ => X0); revert X0; k_fill; intro X; w_top on))
local macro_rules | `(tactic| walk_at "MINE dp") => `(tactic| ((try simp only [depth_under_make, depth_under_kw, depth_in1, depth_deeper, depth_caller, Around.deeper_units]); omega))
section
variable {w : World} {loose : List Str} {mean : ExcName → Option Value} {mg mb : Str → Option Value} {dp un : Nat} {gd : Option (List Code)} {cn : Str} {cs : Scope} {a : Addr} {ccd : Value} {cl : List (Str × Addr)} {outer : List Env} {A₀ : Around} {base h₀ : Heap} {L : Addr} {m : Str → Option Value} {s : Shared} {Q E : Value → Shared → Prop} {news : List (Addr × Obj)}
theorem unlike_use {n1 n2 : Int} {t1 t2 : Tok} (B : Below A₀ base outer h₀) (F : Fr h₀ L s.heap m) (X : (hd.heap_39 w.params).In h₀) (T : Top topProg loose mean mg mb h₀) (N : News h₀ L s.heap news) (hk : cs.kind = .function)
    (hdp : dp + 22 < 1000) (hun : un + 200 < 9900) (hret : ∀ D ws k h' tk', Fr h₀ L h' m → News h₀ L h' ((D, W.listOf ws.toArray k) :: news) → IntsAre ws (unlikeL n1 n2) → (∀ p ∈ news, p.1 ≠ D) → Q (.ref D) { s with heap := h', toks := tk' }) :
    wpAny (model PySem.Challenge.rw_mq0191_01.row.prog w) (ktrTop dp un gd cn cs L a ccd cl outer) (call (.ref 106) [.int n1 t1, .int n2 t2]) Q E s :=
  wpAny_noRaise (unlike_ok w loose mean mg mb n1 n2 t1 t2 dp un gd cn cs a ccd cl outer A₀ base h₀ L m s Q B F X T hk hdp hun fun D ws k h' tk' F' hk' hD hn hI => by
    refine hret D ws k h' tk' F' (fun p hp => ?_) hI fun p hp e => ?_
    · rcases List.mem_cons.mp hp with rfl | hp
      · refine ⟨hD, fun e => ?_, ?_⟩
        · obtain ⟨o, _, _, ho, _⟩ := F.ns
          have e' : D = L := e
          rw [e', ho] at hn; cases hn
        · cases q : h₀.get? D with
          | none => rfl
          | some o => rw [F.keep _ _ q] at hn; cases hn
      · exact (N.grown hk') p hp
    · have := (N p hp).1
      rw [e, hn] at this; cases this)
end
local macro_rules | `(tactic| walk_at "call ref") => `(tactic| (k_here; (with_reducible show wpAny _ _ (call (Value.ref 106) [Value.int _ _, Value.int _ _]) _ _ _); k_dflt (refine' unlike_use ?k1 ?k2 ?k3 ?k4 ?k5 ?k6 ?k7 ?k8 ?_; (case k1 => k_asm); (case k2 => k_asm); (case k3 => k_asm); (case k4 => k_asm); (case k5 => k_asm); (case k6 => first | exact rfl | assumption); (case k7 => walk_at "MINE dp"); (case k8 => walk_at "MINE dp"); k_whole); intro D9 ws9 k9 h9 tk9 F9 N9 I9 O9; (try dsimp only); (try k_sweep); (try k_fold)))
end Mine

/-! T4 -/
set_option Elab.async false
set_option maxRecDepth 100000
set_option linter.unusedVariables false
namespace Mine
theorem turn_two0 (elt t1 i1 t2 i2 : Expr) (scope : Scope) (pos : Pos) (it acc : Value) (env : Env) :
    compTurn (.ListComp elt [⟨t1, i1, [], 0⟩, ⟨t2, i2, [], 0⟩] scope pos) 0 it acc env = (do
      standAt i1.pos
      match ← pyNext it with
      | none => pure (.done .next)
      | some v =>
        letOwnedTupleGo t1 it v
        assign t1 env v
        let x ← eval i2 env
        standAt i2.pos
        let x ← foldedSetIterable i2 env x
        let _ ← runOwn (.compStart (.ListComp elt [⟨t1, i1, [], 0⟩, ⟨t2, i2, [], 0⟩] scope pos) 1 (← holding [x] (pyIter x)) acc env) env
        again (.compLoop (.ListComp elt [⟨t1, i1, [], 0⟩, ⟨t2, i2, [], 0⟩] scope pos) 0 it acc env)) := by rfl
theorem turn_two1 (elt t1 i1 t2 i2 : Expr) (scope : Scope) (pos : Pos) (it acc : Value) (env : Env) :
    compTurn (.ListComp elt [⟨t1, i1, [], 0⟩, ⟨t2, i2, [], 0⟩] scope pos) 1 it acc env = (do
      standAt i2.pos
      match ← pyNext it with
      | none => pure (.done .next)
      | some v =>
        letOwnedTupleGo t2 it v
        assign t2 env v
        (do let _ ← call (.builtin "list.append") [acc, ← eval elt env])
        again (.compLoop (.ListComp elt [⟨t1, i1, [], 0⟩, ⟨t2, i2, [], 0⟩] scope pos) 1 it acc env)) := by rfl
section
variable {prog : Program} {w : World} {A : Around} {R : Result → Shared → Prop} {s : Shared} {env : Env} {elt i1 i2 : Expr} {x1 x2 : Str} {p1 p2 : Pos} {scope : Scope} {pos : Pos} {it acc : Value}
theorem comp_two0
    (h : wpAny (model prog w) A (pyNext it) (fun r s₁ => match r with
      | none => R (.ok .next) s₁
      | some v => wpAny (model prog w) A (assign (.Name x1 p1) env v) (fun _ s₂ => wpAny (model prog w) A (eval i2 env) (fun x s₃ => wpAny (model prog w) A (pyIter x) (fun it2 s₄ =>
          codeAny (model prog w) A (.compStart (.ListComp elt [⟨.Name x1 p1, i1, [], 0⟩, ⟨.Name x2 p2, i2, [], 0⟩] scope pos) 1 it2 acc env) (fun r s₅ => match r with
            | .ok _ => codeAny (model prog w) A (.compLoop (.ListComp elt [⟨.Name x1 p1, i1, [], 0⟩, ⟨.Name x2 p2, i2, [], 0⟩] scope pos) 0 it acc env) R s₅
            | .error _ => False) s₄) (fun _ _ => False) s₃) (fun _ _ => False) s₂) (fun _ _ => False) s₁) (fun _ _ => False) s)
    (hs : ∀ x, foldedSetIterable i2 env x = pure x) :
    codeAny (model prog w) A (.compLoop (.ListComp elt [⟨.Name x1 p1, i1, [], 0⟩, ⟨.Name x2 p2, i2, [], 0⟩] scope pos) 0 it acc env) R s := by
  refine codeAny_of_tree ?_
  show wpAny _ A ((compTurn (.ListComp elt [⟨.Name x1 p1, i1, [], 0⟩, ⟨.Name x2 p2, i2, [], 0⟩] scope pos) 0 it acc env).onRaise (fun x => do noteFrame x env; theTreesLotGoes x)) _ _ s
  refine wpAny_noted (wpAny_noRaise ?_)
  rw [turn_two0]
  refine wpAny_bind (wpAny_standAt (wpAny_bind (wpAny_mono h (fun r s₁ h₁ => ?_) fun _ _ h' => h')))
  cases r with
  | none => exact wpAny_pure h₁
  | some v =>
    refine wpAny_bind (wpAny_pure ?_)
    refine wpAny_bind (wpAny_mono h₁ (fun _ s₂ h₂ => ?_) fun _ _ h' => h')
    refine wpAny_bind (wpAny_mono h₂ (fun x s₃ h₃ => ?_) fun _ _ h' => h')
    refine wpAny_bind (wpAny_standAt ?_)
    refine wpAny_bind (wpAny_of_eq (hs x) ?_)
    refine wpAny_bind (wpAny_holding (wpAny_mono h₃ (fun it2 s₄ h₄ => ?_) fun _ _ h' => h'))
    refine wpAny_bind (wpAny_runOwn (codeAny_mono h₄ fun r s₅ h₅ => ?_))
    cases r with
    | ok f => exact wpAny_pure ⟨rfl, h₅⟩
    | error e => exact h₅.elim
theorem comp_two1
    (h : wpAny (model prog w) A (pyNext it) (fun r s₁ => match r with
      | none => R (.ok .next) s₁
      | some v => wpAny (model prog w) A (assign (.Name x2 p2) env v) (fun _ s₂ => wpAny (model prog w) A (eval elt env) (fun x s₃ => wpAny (model prog w) A (call (.builtin "list.append") [acc, x]) (fun _ s₄ =>
          codeAny (model prog w) A (.compLoop (.ListComp elt [⟨.Name x1 p1, i1, [], 0⟩, ⟨.Name x2 p2, i2, [], 0⟩] scope pos) 1 it acc env) R s₄) (fun _ _ => False) s₃) (fun _ _ => False) s₂) (fun _ _ => False) s₁) (fun _ _ => False) s) :
    codeAny (model prog w) A (.compLoop (.ListComp elt [⟨.Name x1 p1, i1, [], 0⟩, ⟨.Name x2 p2, i2, [], 0⟩] scope pos) 1 it acc env) R s := by
  refine codeAny_of_tree ?_
  show wpAny _ A ((compTurn (.ListComp elt [⟨.Name x1 p1, i1, [], 0⟩, ⟨.Name x2 p2, i2, [], 0⟩] scope pos) 1 it acc env).onRaise (fun x => do noteFrame x env; theTreesLotGoes x)) _ _ s
  refine wpAny_noted (wpAny_noRaise ?_)
  rw [turn_two1]
  refine wpAny_bind (wpAny_standAt (wpAny_bind (wpAny_mono h (fun r s₁ h₁ => ?_) fun _ _ h' => h')))
  cases r with
  | none => exact wpAny_pure h₁
  | some v =>
    refine wpAny_bind (wpAny_pure ?_)
    refine wpAny_bind (wpAny_mono h₁ (fun _ s₂ h₂ => ?_) fun _ _ h' => h')
    refine wpAny_bind (wpAny_bind (wpAny_mono h₂ (fun x s₃ h₃ => ?_) fun _ _ h' => h'))
    exact wpAny_bind (wpAny_mono h₃ (fun _ s₄ h₄ => wpAny_pure (wpAny_pure ⟨rfl, h₄⟩)) fun _ _ h' => h')
theorem comp_start1
    (h0 : codeAny (model prog w) A (.compLoop (.ListComp elt [⟨.Name x1 p1, i1, [], 0⟩, ⟨.Name x2 p2, i2, [], 0⟩] scope pos) 1 it acc env) R s)
    (h : wpAny (model prog w) A (pyIter it) (fun it' s' => codeAny (model prog w) A (.compLoop (.ListComp elt [⟨.Name x1 p1, i1, [], 0⟩, ⟨.Name x2 p2, i2, [], 0⟩] scope pos) 1 it' acc env) R s') (fun _ _ => False) s) :
    codeAny (model prog w) A (.compStart (.ListComp elt [⟨.Name x1 p1, i1, [], 0⟩, ⟨.Name x2 p2, i2, [], 0⟩] scope pos) 1 it acc env) R s := by
  refine codeAny_of_tree ?_
  show wpAny _ _ ((compStart (.ListComp elt [⟨.Name x1 p1, i1, [], 0⟩, ⟨.Name x2 p2, i2, [], 0⟩] scope pos) 1 it acc env).onRaise (fun x => do noteFrame x env; standAt theWindowsPlace)) _ _ s
  refine wpAny_notedAt (wpAny_noRaise ?_)
  unfold compStart
  show wpAny _ _ (ask >>= _) _ _ s
  refine wpAny_bind (wpAny_askSetting (wpAny_ite ?_))
  split
  · first
      | exact wpAny_bind (wpAny_pure (wpAny_pure (And.intro rfl h0)))
      | exact wpAny_pure (And.intro rfl h0)
  · first
      | exact wpAny_bind (wpAny_rule (wpAny_bind (wpAny_standAt (wpAny_bind (wpAny_mono h (fun it' s' h' => wpAny_pure (And.intro rfl h')) fun _ _ x => x)))))
      | (refine wpAny_bind (wpAny_rule ?_); show wpAny _ _ (standAt i2.pos >>= _) _ _ s; exact wpAny_bind (wpAny_standAt (wpAny_bind (wpAny_mono h (fun it' s' h' => wpAny_pure (And.intro rfl h')) fun _ _ x => x))))
end
theorem ints_snoc {ys : List Value} {ns : List Int} {x : Int} {t : Tok} (h : IntsAre ys ns) : IntsAre (ys ++ [.int x t]) (ns ++ [x]) := IntsAre.append h (.cons x t .nil)

section
variable {prog : Program} {w : World} {A : Around} {s : Shared} {env : Env} {elt i1 i2 : Expr} {x1 x2 y : Str} {p1 p2 py pos spos : Pos} {scope : Scope} {cl : List (Str × Addr)} {Q : Flow → Shared → Prop} {E : Value → Shared → Prop}
  {h₀ : Heap} {L : Addr} {m : Str → Option Value} {news : List (Addr × Obj)} {n : Nat} {pl : Nat → List Int} {f : Nat → Int → Int}

/-- what stands in a block's heap: all that stood ahead of it, its list so far, its names -/
structure Blk (hb : Heap) (D C : Addr) (ys : List Value) (h : Heap) (m₃ : Str → Option Value) : Prop where
  keep : ∀ b o, hb.get? b = some o → h.get? b = some o
  acc : h.PlainList D ys.toArray
  ns : h.Ns C m₃
theorem Blk.more {hb : Heap} {D C : Addr} {ys : List Value} {h h' : Heap} {m₃ : Str → Option Value} (b : Blk hb D C ys h m₃) (k : ∀ b o, h.get? b = some o → h'.get? b = some o) : Blk hb D C ys h' m₃ :=
  ⟨fun a o e => k _ _ (b.keep a o e), b.acc.at fun o e => k _ o e, b.ns.at' fun o e => k _ o e⟩

/-- the ints that the turns ahead of turn i have given -/
def flatI (pl : Nat → List Int) (f : Nat → Int → Int) (i : Nat) : List Int := (List.range i).flatMap fun i => (pl i).map (f i)
theorem flatI_succ (pl : Nat → List Int) (f : Nat → Int → Int) (i : Nat) : flatI pl f (i + 1) = flatI pl f i ++ (pl i).map (f i) := by
  unfold flatI
  rw [List.range_succ, List.flatMap_append]
  simp
theorem comp2_loop {R : Result → Shared → Prop} {hb : Heap} {D C I : Addr} (hh : A.handled = none) (F : Fr h₀ L hb m) (N : News h₀ L hb news)
    (hx1 : scope.names.lookup x1 = some .local) (hx2 : scope.names.lookup x2 = some .local) (hx12 : x1 ≠ x2) (hkind : scope.kind = .function)
    (hs2 : ∀ x, foldedSetIterable i2 (compEnvC scope cl C env) x = pure x)
    (hold : ∀ b o, hb.get? b = some o → b ≠ I ∧ b ≠ D ∧ b ≠ C) (hID : I ≠ D) (hIC : I ≠ C) (hDC : D ≠ C)
    (hsz : ∀ i j, i < n → (flatI pl f i ++ ((pl i).take j).map (f i)).length ≤ sizeLine)
    (step : ∀ i t h tk m₃, i < n → Fr h₀ L h m → News h₀ L h news → h.Ns C m₃ → m₃ x1 = some (.int (i : Int) t) →
      wpAny (model prog w) A (eval i2 (compEnvC scope cl C env)) (fun xv s₁ => ∃ l ws k h' tk', xv = .ref l ∧ s₁ = { s with heap := h', toks := tk' } ∧ (∀ b o, h.get? b = some o → h'.get? b = some o) ∧ h'.get? l = some (W.listOf ws.toArray k) ∧ h.get? l = none ∧ IntsAre ws (pl i)) (fun _ _ => False) { s with heap := h, toks := tk })
    (helt : ∀ i p t t' h tk m₃, i < n → p ∈ pl i → h.Ns C m₃ → m₃ x1 = some (.int (i : Int) t) → m₃ x2 = some (.int p t') → Fr h₀ L h m →
      wpAny (model prog w) A (eval elt (compEnvC scope cl C env)) (fun xv s₁ => ∃ t tk', xv = .int (f i p) t ∧ s₁ = { s with heap := h, toks := tk' }) (fun _ _ => False) { s with heap := h, toks := tk })
    (fin : ∀ h tk m₃ ys, Blk hb D C ys h m₃ → IntsAre ys (flatI pl f n) → R (.ok .next) { s with heap := h, toks := tk }) :
    ∀ k i h tk m₃ ys, i + k = n → IsRangeIter h I (0 + (i : Nat) * 1) ((n : Int) - (i : Nat)) 1 → Blk hb D C ys h m₃ → IntsAre ys (flatI pl f i) →
      codeAny (model prog w) A (.compLoop (.ListComp elt [⟨.Name x1 p1, i1, [], 0⟩, ⟨.Name x2 p2, i2, [], 0⟩] scope pos) 0 (.ref I) (.ref D) (compEnvC scope cl C env)) R { s with heap := h, toks := tk } := by
  have hCk : ((compEnvC scope cl C env).scope.kind == .class || ((compEnvC scope cl C env).scope.kind == .module && (compEnvC scope cl C env).locals != (compEnvC scope cl C env).globals)) = false := by simp [compEnvC, relabel, hkind]
  have frame : ∀ h, (∀ b o, hb.get? b = some o → h.get? b = some o) → Fr h₀ L h m ∧ News h₀ L h news := fun h k => ⟨F.keeps k, N.grown k⟩
  have hLo : ∃ o, hb.get? L = some o := by obtain ⟨o, _, _, e, _⟩ := F.ns; exact ⟨o, e⟩
  intro k
  induction k with
  | zero =>
    intro i h tk m₃ ys hi hst hB hy
    have hi' : i = n := by omega
    subst hi'
    refine comp_two0 ?_ hs2
    refine wpAny_pyNext_range_end hh hst (by omega) fun h' he => ?_
    exact fin h' tk m₃ ys ⟨fun b o e => he b o (hold b o e).1 (hB.keep b o e), hB.acc.at fun o e => he _ o (Ne.symm hID) e, hB.ns.at' fun o e => he _ o (Ne.symm hIC) e⟩ hy
  | succ k ih =>
    intro i h tk m₃ ys hi hst hB hy
    have hlt : i < n := by omega
    refine comp_two0 ?_ hs2
    refine wpAny_pyNext_range_item hst (by omega) fun h2 hst2 hs2' => ?_
    dsimp only
    have hv0 : (0 + (i : Int) * 1) = (i : Int) := by omega
    rw [hv0]
    replace hst2 : IsRangeIter h2 I (0 + ((i + 1 : Nat) : Int) * 1) ((n : Int) - ((i + 1 : Nat) : Int)) 1 := by
      have e1 : (0 + (i : Int) * 1 + 1) = (0 + ((i + 1 : Nat) : Int) * 1) := by push_cast; omega
      have e2 : ((n : Int) - (i : Int) - 1) = ((n : Int) - ((i + 1 : Nat) : Int)) := by push_cast; omega
      rw [← e1, ← e2]; exact hst2
    refine wpAny_assign_Name (wpAny_storeName_local (env := compEnvC scope cl C env) (lookup_relabel_local hx1) (hB.ns.sameBut hs2' (Ne.symm hIC)) (fun h3 hn3 hs3 => ?_) hCk)
    replace hs3 : Heap.SameBut C h2 h3 := hs3
    have k3 : ∀ b o, b ≠ I → b ≠ C → h.get? b = some o → h3.get? b = some o := fun b o h1 h2' e => hs3.extBut b o h2' (hs2'.extBut b o h1 e)
    have old3 : ∀ b o, hb.get? b = some o → h3.get? b = some o := fun b o e => k3 b o (hold b o e).1 (hold b o e).2.2 (hB.keep b o e)
    obtain ⟨F3, N3⟩ := frame h3 old3
    refine wpAny_mono (step i tk h3 _ _ hlt F3 N3 hn3 (by simp)) (fun xv s₁ h₁ => ?_) fun _ _ e => e
    obtain ⟨l, ws, kk, h4, tk4, rfl, rfl, k4, hl4, hln, hws⟩ := h₁
    have hl4' : h4.IsList l ws.toArray := ⟨_, hl4, rfl, _, rfl⟩
    refine wpAny_pyIter_list hl4' ?_
    dsimp only
    have hst4 : IsRangeIter h4 I (0 + ((i + 1 : Nat) : Int) * 1) ((n : Int) - ((i + 1 : Nat) : Int)) 1 := k4 _ _ (hs3.extBut _ _ hIC hst2)
    have hB4 : Blk hb D C ys h4 (fun x => if x = x1 then some (.int (i : Int) tk) else m₃ x) := by
      refine ⟨fun b o e => k4 _ _ (old3 b o e), hB.acc.at fun o e => k4 _ _ (k3 _ _ (Ne.symm hID) hDC e), hn3.at' fun o e => k4 _ _ e⟩
    have I2lt : ∀ b o, h4.get? b = some o → b ≠ h4.objs.size := fun b o e => Nat.ne_of_lt (Heap.lt_size e)
    have hDI2 : D ≠ h4.objs.size := by obtain ⟨_, e⟩ := hB4.acc; exact I2lt _ _ e
    have hCI2 : C ≠ h4.objs.size := by obtain ⟨_, _, _, e, _⟩ := hB4.ns; exact I2lt _ _ e
    have hII2 : I ≠ h4.objs.size := I2lt _ _ hst4
    have hlI2 : l ≠ h4.objs.size := I2lt _ _ hl4
    have hlD : l ≠ D := by
      rintro rfl
      obtain ⟨_, e⟩ := hB.acc
      rw [k3 _ _ (Ne.symm hID) hDC e] at hln; cases hln
    have hlC : l ≠ C := by
      rintro rfl
      obtain ⟨o3, _, _, e, _⟩ := hn3
      have e' : h3.get? l = some o3 := e
      rw [e'] at hln; cases hln
    have inner : ∀ k2 j h tk5 m₅ ys5, j + k2 = ws.length → h.IsListIter h4.objs.size l j → h.IsList l ws.toArray → IsRangeIter h I (0 + ((i + 1 : Nat) : Int) * 1) ((n : Int) - ((i + 1 : Nat) : Int)) 1 → Blk hb D C ys5 h m₅ → m₅ x1 = some (.int (i : Int) tk) → IntsAre ys5 (flatI pl f i ++ ((pl i).take j).map (f i)) →
        codeAny (model prog w) A (.compLoop (.ListComp elt [⟨.Name x1 p1, i1, [], 0⟩, ⟨.Name x2 p2, i2, [], 0⟩] scope pos) 1 (.ref h4.objs.size) (.ref D) (compEnvC scope cl C env)) (fun r s₅ => match r with
            | .ok _ => codeAny (model prog w) A (.compLoop (.ListComp elt [⟨.Name x1 p1, i1, [], 0⟩, ⟨.Name x2 p2, i2, [], 0⟩] scope pos) 0 (.ref I) (.ref D) (compEnvC scope cl C env)) R s₅
            | .error _ => False) { s with heap := h, toks := tk5 } := by
      intro k2
      induction k2 with
      | zero =>
        intro j h tk5 m₅ ys5 hj hit hl hst5 hB5 hm5 hy5
        have hj' : j = ws.length := by omega
        refine comp_two1 ?_
        refine wpAny_pyNext_list_end hh hit hl (by simp [hj']) fun h' he => ?_
        dsimp only
        refine ih (i + 1) h' tk5 m₅ ys5 (by omega) (he _ _ hII2 hst5) ⟨fun b o e => he b o (fun q => ?_) (hB5.keep b o e), hB5.acc.at fun o e => he _ o hDI2 e, hB5.ns.at' fun o e => he _ o hCI2 e⟩ ?_
        · rw [q] at e; exact I2lt _ _ (k4 _ _ (old3 _ _ e)) rfl
        · rw [flatI_succ]
          have : (pl i).take j = pl i := List.take_of_length_le (by rw [hj', hws.length]; exact Nat.le_refl _)
          rw [this] at hy5; exact hy5
      | succ k2 ih2 =>
        intro j h tk5 m₅ ys5 hj hit hl hst5 hB5 hm5 hy5
        have hjl : j < ws.length := by omega
        have hjp : j < (pl i).length := by rw [← hws.length]; exact hjl
        obtain ⟨tp, hwp⟩ := hws.get j (pl i)[j] (by simp [hjp])
        refine comp_two1 ?_
        refine wpAny_pyNext_list_item hit hl (x := .int (pl i)[j] tp) (by simpa using hwp) fun h6 hit6 hs6 => ?_
        dsimp only
        replace hs6 : Heap.SameBut h4.objs.size h h6 := hs6
        refine wpAny_assign_Name (wpAny_storeName_local (env := compEnvC scope cl C env) (lookup_relabel_local hx2) (hB5.ns.sameBut hs6 hCI2) (fun h7 hn7 hs7 => ?_) hCk)
        replace hs7 : Heap.SameBut C h6 h7 := hs7
        have k7 : ∀ b o, b ≠ h4.objs.size → b ≠ C → h.get? b = some o → h7.get? b = some o := fun b o h1 h2' e => hs7.extBut b o h2' (hs6.extBut b o h1 e)
        have old7 : ∀ b o, hb.get? b = some o → h7.get? b = some o := fun b o e => k7 b o (I2lt _ _ (k4 _ _ (old3 _ _ e))) (hold b o e).2.2 (hB5.keep b o e)
        obtain ⟨F7, N7⟩ := frame h7 old7
        refine wpAny_mono (helt i (pl i)[j] tk tp h7 _ _ hlt (List.getElem_mem hjp) hn7 (by simp [hx12, hm5]) (by simp) F7) (fun xv s₁ h₁ => ?_) fun _ _ e => e
        obtain ⟨t8, tk8, rfl, rfl⟩ := h₁
        have hacc7 : h7.PlainList D ys5.toArray := hB5.acc.at fun o e => k7 _ _ hDI2 hDC e
        refine wpAny_list_append_plain hacc7 (fun h8 hl8 hs8 => ?_) (by rw [List.size_toArray, hy5.length]; exact hsz i j hlt)
        replace hs8 : Heap.SameBut D h7 h8 := hs8
        refine ih2 (j + 1) h8 tk8 (fun x => if x = x2 then some (.int (pl i)[j] tp) else m₅ x) (ys5 ++ [.int (f i (pl i)[j]) t8]) (by omega) ?_ ?_ ?_ ?_ (by simp [hx12, hm5]) ?_
        · obtain ⟨o, e, r⟩ := hit6
          exact ⟨o, hs8.extBut _ _ (Ne.symm hDI2) (hs7.extBut _ _ (Ne.symm hCI2) e), r⟩
        · obtain ⟨o, e, r⟩ := hl
          exact ⟨o, hs8.extBut _ _ hlD (k7 _ _ hlI2 hlC e), r⟩
        · exact hs8.extBut _ _ hID (k7 _ _ hII2 hIC hst5)
        · refine ⟨fun b o e => hs8.extBut _ _ (hold b o e).2.1 (old7 b o e), ?_, hn7.sameBut hs8 (Ne.symm hDC)⟩
          have : (ys5 ++ [Value.int (f i (pl i)[j]) t8]).toArray = ys5.toArray.push (.int (f i (pl i)[j]) t8) := by simp
          rw [this]; exact hl8
        · have : ((pl i).take (j + 1)).map (f i) = ((pl i).take j).map (f i) ++ [f i (pl i)[j]] := by
            rw [List.take_add_one, List.getElem?_eq_getElem hjp, List.map_append]; rfl
          rw [this, ← List.append_assoc]
          exact ints_snoc hy5
    have start : ∀ s₃ : Shared, s₃ = { s with heap := h4.push { cls := .type "list_iterator", data := .fields #[.ref l, .int 0 0] }, toks := tk4 } →
        codeAny (model prog w) A (.compLoop (.ListComp elt [⟨.Name x1 p1, i1, [], 0⟩, ⟨.Name x2 p2, i2, [], 0⟩] scope pos) 1 (.ref h4.objs.size) (.ref D) (compEnvC scope cl C env)) (fun r s₅ => match r with
            | .ok _ => codeAny (model prog w) A (.compLoop (.ListComp elt [⟨.Name x1 p1, i1, [], 0⟩, ⟨.Name x2 p2, i2, [], 0⟩] scope pos) 0 (.ref I) (.ref D) (compEnvC scope cl C env)) R s₅
            | .error _ => False) s₃ := by
      rintro s₃ rfl
      exact inner ws.length 0 _ _ _ ys (by omega) ⟨_, Heap.get?_push_size _ rfl, rfl, rfl⟩ (hl4'.push _) (Heap.get?_push_of_some _ hst4) (hB4.more fun _ _ e => Heap.get?_push_of_some _ e) (by simp) (by simpa using hy)
    exact comp_start1 (start _ rfl) (wpAny_pyIter_listiter ⟨_, Heap.get?_push_size _ rfl, rfl, rfl⟩ (start _ rfl))

theorem assign_comp2 (F : Fr h₀ L s.heap m) (N : News h₀ L s.heap news) (hh : A.handled = none) (hLe : env.locals = L)
    (hsw : swapsWith (.ListComp elt [⟨.Name x1 p1, i1, [], 0⟩, ⟨.Name x2 p2, i2, [], 0⟩] scope pos) (some (.Name y py)) spos.line env = pure true)
    (hclos : closureFor scope env = pure cl) (hcell : ∀ z ∈ scope.names, z.2 ≠ .cell) (hkind : scope.kind = .function)
    (hnames : ∀ z ∈ scope.names, z.2 = .local → scope.names.lookup z.1 = some .local) (hx1 : scope.names.lookup x1 = some .local) (hx2 : scope.names.lookup x2 = some .local) (hx12 : x1 ≠ x2)
    (hy : env.kindOf y = some .local) (hp : (env.scope.kind == .class || (env.scope.kind == .module && env.locals != env.globals)) = false)
    (hs1 : ∀ x, foldedSetIterable i1 env x = pure x) (hs2 : ∀ C x, foldedSetIterable i2 (compEnvC scope cl C env) x = pure x)
    (hsz : ∀ i j, i < n → (flatI pl f i ++ ((pl i).take j).map (f i)).length ≤ sizeLine)
    (src : wpAny (model prog w) A (eval i1 env) (fun xv s₁ => ∃ r b t u v h1 tk1, xv = .ref r ∧ s₁ = { s with heap := h1, toks := tk1 } ∧ (∀ b o, s.heap.get? b = some o → h1.get? b = some o) ∧ IsRange h1 r 0 b 1 t u v ∧ Builtin.Range.small 0 b 1 = true ∧ Builtin.Range.rangeSize 0 b 1 = ((n : Nat) : Int)) (fun _ _ => False) s)
    (step : ∀ i t C h tk m₃, i < n → Fr h₀ L h m → News h₀ L h news → h.Ns C m₃ → m₃ x1 = some (.int (i : Int) t) →
      wpAny (model prog w) A (eval i2 (compEnvC scope cl C env)) (fun xv s₁ => ∃ l ws k h' tk', xv = .ref l ∧ s₁ = { s with heap := h', toks := tk' } ∧ (∀ b o, h.get? b = some o → h'.get? b = some o) ∧ h'.get? l = some (W.listOf ws.toArray k) ∧ h.get? l = none ∧ IntsAre ws (pl i)) (fun _ _ => False) { s with heap := h, toks := tk })
    (helt : ∀ i p t t' C h tk m₃, i < n → p ∈ pl i → h.Ns C m₃ → m₃ x1 = some (.int (i : Int) t) → m₃ x2 = some (.int p t') → Fr h₀ L h m →
      wpAny (model prog w) A (eval elt (compEnvC scope cl C env)) (fun xv s₁ => ∃ t tk', xv = .int (f i p) t ∧ s₁ = { s with heap := h, toks := tk' }) (fun _ _ => False) { s with heap := h, toks := tk })
    (done : ∀ D ys k h tk, Fr h₀ L h (fun z => if z = y then some (.ref D) else m z) → News h₀ L h ((D, W.listOf ys.toArray k) :: news) → (∀ p ∈ news, p.1 ≠ D) → IntsAre ys (flatI pl f n) → Q .next { s with heap := h, toks := tk }) :
    wpAny (model prog w) A (exec (.Assign [.Name y py] (.ListComp elt [⟨.Name x1 p1, i1, [], 0⟩, ⟨.Name x2 p2, i2, [], 0⟩] scope pos) spos) env) Q E s := by
  subst hLe
  refine wpAny_noRaise ?_
  rw [exec_Assign_Name_used _ _ _ _ hsw]
  refine wpAny_bind (wpAny_standAt (wpAny_bind ?_))
  show wpAny _ A (do let _ ← comprehension (.ListComp elt [⟨.Name x1 p1, i1, [], 0⟩, ⟨.Name x2 p2, i2, [], 0⟩] scope pos) scope env _ (newList []) false (eval i1 env) (some (assign (.Name y py) env))) _ _ s
  refine wpAny_bind (wpAny_mono (wpAny_comprehension_free (use := some (assign (.Name y py) env)) (Q := fun _ s' => Q .next s') rfl hs1 hclos hkind hnames
    (wpAny_mono src (fun xv s₁ h₁ => ?_) fun _ _ e => e)) (fun _ s' hq => wpAny_pure (wpAny_pure hq)) fun _ _ e => e)
  obtain ⟨r, b, t, u, v, h1, tk1, rfl, rfl, keep1, hr, hsm, hn⟩ := h₁
  refine wpAny_pyIter_range hr hsm ?_
  refine wpAny_newObj_type (wpAny_newFunctionEnv hcell (by intro y hy; simp at hy) (fun h2 hns2 hsb2 => ?_) hkind)
  dsimp only at hns2 hsb2 ⊢
  have hit0 : IsRangeIter (h1.push { cls := .type "range_iterator", dict := none, data := .fields #[rawInt 0, rawInt (Builtin.Range.rangeSize 0 b 1), rawInt 1] }) h1.objs.size 0 (n : Int) 1 := by
    have := Heap.get?_push_size h1 (o := { cls := .type "range_iterator", dict := none, data := .fields #[rawInt 0, rawInt (Builtin.Range.rangeSize 0 b 1), rawInt 1] }) rfl
    rw [hn] at this ⊢
    exact this
  have up1 : ∀ b' o, h1.get? b' = some o → (h1.push { cls := .type "range_iterator", dict := none, data := .fields #[rawInt 0, rawInt (Builtin.Range.rangeSize 0 b 1), rawInt 1] }).get? b' = some o := fun b' o e => Heap.get?_push_of_some _ e
  have hz1 : (h1.push { cls := .type "range_iterator", dict := none, data := .fields #[rawInt 0, rawInt (Builtin.Range.rangeSize 0 b 1), rawInt 1] }).objs.size = h1.objs.size + 1 := Heap.size_push ..
  generalize h1.push { cls := .type "range_iterator", dict := none, data := .fields #[rawInt 0, rawInt (Builtin.Range.rangeSize 0 b 1), rawInt 1] } = H1 at hns2 hsb2 hit0 up1 hz1 ⊢
  have hD0 : (H1.push { cls := .type "list", dict := none, data := .seq ([] : List Value).toArray }).get? H1.objs.size = some { cls := .type "list", dict := none, data := .seq ([] : List Value).toArray } := Heap.get?_push_size _ rfl
  have up2 : ∀ b' o, H1.get? b' = some o → (H1.push { cls := .type "list", dict := none, data := .seq ([] : List Value).toArray }).get? b' = some o := fun b' o e => Heap.get?_push_of_some _ e
  have hz2 : (H1.push { cls := .type "list", dict := none, data := .seq ([] : List Value).toArray }).objs.size = H1.objs.size + 1 := Heap.size_push ..
  generalize H1.push { cls := .type "list", dict := none, data := .seq ([] : List Value).toArray } = H2 at hns2 hsb2 hD0 up2 hz2 ⊢
  have zI : h1.objs.size < H2.objs.size := by rw [hz2, hz1]; omega
  have hIC : h1.objs.size ≠ H2.objs.size := Nat.ne_of_lt zI
  have hID : h1.objs.size ≠ H1.objs.size := by rw [hz1]; omega
  have hDC : H1.objs.size ≠ H2.objs.size := by rw [hz2]; omega
  have k2 : ∀ b' o, b' ≠ H2.objs.size → H2.get? b' = some o → h2.get? b' = some o := fun b' o hb e => hsb2.extBut b' o hb (Heap.get?_push_of_some _ e)
  have hold : ∀ b' o, h1.get? b' = some o → b' ≠ h1.objs.size ∧ b' ≠ H1.objs.size ∧ b' ≠ H2.objs.size := fun b' o e => by
    have hl : @LT.lt Nat _ b' h1.objs.size := Heap.lt_size e
    refine ⟨Nat.ne_of_lt hl, Nat.ne_of_lt (by rw [hz1]; omega), Nat.ne_of_lt (by rw [hz2, hz1]; omega)⟩
  have F1 := F.keeps keep1
  have N1 := N.grown keep1
  have hB2 : Blk h1 H1.objs.size H2.objs.size [] h2 (fun x => ([] : List (Str × Value)).reverse.lookup x) :=
    ⟨fun b' o e => k2 _ _ (hold b' o e).2.2 (up2 _ _ (up1 _ _ e)), ⟨_, k2 _ _ hDC hD0⟩, hns2⟩
  have hst2 : IsRangeIter h2 h1.objs.size (0 + ((0 : Nat) : Int) * 1) ((n : Int) - ((0 : Nat) : Int)) 1 := by
    have := k2 _ _ hIC (up2 _ _ hit0)
    simpa using this
  have hL1 : ∃ o, h1.get? env.locals = some o := by obtain ⟨o, _, _, e, _⟩ := F1.ns; exact ⟨o, e⟩
  have loop : ∀ s₃ : Shared, s₃ = { s with heap := h2, toks := tk1 + ([] : List (Str × Value)).length } →
      codeAny (model prog w) A (.compLoop (.ListComp elt [⟨.Name x1 p1, i1, [], 0⟩, ⟨.Name x2 p2, i2, [], 0⟩] scope pos) 0 (.ref h1.objs.size) (.ref H1.objs.size) (compEnvC scope cl H2.objs.size env))
        (compPost (model prog w) A (fun _ _ => False) (some (assign (.Name y py) env)) (fun _ s' => Q .next s') (.ref H1.objs.size) H2.objs.size) s₃ := by
    rintro s₃ rfl
    refine comp2_loop (pl := pl) (f := f) (n := n) hh F1 N1 hx1 hx2 hx12 hkind (hs2 _) hold hID hIC hDC hsz (fun i t h tk m₃ => step i t _ h tk m₃) (fun i p t t' h tk m₃ => helt i p t t' _ h tk m₃) ?_ n 0 h2 _ _ [] (by omega) hst2 hB2 (by simpa [flatI] using IntsAre.nil)
    intro h tk m₃ ys hB hys
    show wpAny _ A (assign (.Name y py) env (.ref H1.objs.size)) _ _ _
    have F' := F1.keeps hB.keep
    refine wpAny_assign_Name (wpAny_storeName_local hy F'.ns (fun h5 hn5 hs5 => ?_) hp)
    replace hs5 : Heap.SameBut env.locals h h5 := hs5
    obtain ⟨oL, hoL⟩ := hL1
    have hCL : H2.objs.size ≠ env.locals := Ne.symm (hold _ _ hoL).2.2
    have hDL : H1.objs.size ≠ env.locals := Ne.symm (hold _ _ hoL).2.1
    have hL₀ : h₀.get? env.locals = none := Heap.get?_none_of_le F'.above
    have hn0 : ∀ a, h1.objs.size ≤ a → h₀.get? a = none := fun a ha => by
      cases q : h₀.get? a with
      | none => rfl
      | some o => exact absurd (Heap.lt_size (F1.keep _ _ q)) (Nat.not_lt.mpr ha)
    have hC₀ : h₀.get? H2.objs.size = none := hn0 _ (by rw [hz2, hz1]; omega)
    have hD₀ : h₀.get? H1.objs.size = none := hn0 _ (by rw [hz1]; omega)
    have F5 : Fr h₀ env.locals h5 (fun z => if z = y then some (.ref H1.objs.size) else m z) := ⟨hn5, fun b' o e => hs5.extBut b' o (fun q => by rw [q, hL₀] at e; cases e) (F'.keep b' o e), F'.above⟩
    refine ⟨m₃, hB.ns.sameBut hs5 hCL, fun h6 hs6 => ?_⟩
    replace hs6 : Heap.SameBut H2.objs.size h5 h6 := hs6
    obtain ⟨kD, eD⟩ := hB.acc
    refine done H1.objs.size ys kD h6 _ (F5.change hs6 hCL hC₀) (fun p hp => ?_) (fun p hp => (hold _ _ (N1 p hp).1).2.1) hys
    rcases List.mem_cons.mp hp with rfl | hp
    · exact ⟨hs6.extBut _ _ hDC (hs5.extBut _ _ hDL eD), hDL, hD₀⟩
    · exact ⟨hs6.extBut _ _ (hold _ _ (N1 p hp).1).2.2 (hs5.extBut _ _ (N1 p hp).2.1 (hB.keep _ _ (N1 p hp).1)), (N1 p hp).2⟩
  exact codeAny_compStart_list (loop _ rfl) (wpAny_pyIter_rangeiter (by simpa using hst2) (loop _ rfl))
end
end Mine

/-! L1a -/
namespace Mine
set_option Elab.async false
set_option linter.unusedVariables false
local macro_rules | `(tactic| k_room) => `(tactic| ((try simp only [depth_under_make, depth_under_kw, depth_in1, depth_deeper, depth_caller, recursionLimit]); omega))
local macro_rules | `(tactic| walk_at "MINE enterC") => `(tactic| (refine wpAny_call ?_; k_dflt (refine' code_defCG ?k1 ?k2 ?k3 ?k4 ?k5 ?kA ?kF ?kK ?k6 ?k7 ?k8 ?k9 ?kB ?kD ?_ ?c2 ?c3 ?c4; (case kA => exact rfl); (case kF => exact rfl); (case kK => assumption); (case k1 => k_asm); (case k2 => k_asm); (case k3 => k_asm); (case k4 => k_asm); (case k5 => k_asm); (case k6 => k_is); (case k7 => k_is); (case k8 => k_room); (case k9 => exact BindsTo.of_eq rfl); (case kB => exact rfl); (case kD => decide +kernel); (case c2 => exact rfl); (case c3 => exact rfl); (case c4 => exact rfl); k_whole)))
local macro_rules | `(tactic| walk_at "MINE fill") => `(tactic| (w_on; (rename Frag.In _ _ => X0); revert X0; k_fill; intro X; w_top on))
local macro_rules | `(tactic| walk_at "MINE dp") => `(tactic| ((try simp only [depth_under_make, depth_under_kw, depth_in1, depth_deeper, depth_caller, Around.deeper_units]); omega))
local macro_rules | `(tactic| walk_at "call ref") => `(tactic| (k_here; (with_reducible show wpAny _ _ (call (Value.ref 106) [Value.int _ _, Value.int _ _]) _ _ _); refine Stop.out ?_))
local macro_rules | `(tactic| walk_at "exec Assign cons ListComp") => `(tactic| refine Stop.out ?_)
def get2 (x y : Int) (i : Nat) : Int := if i = 0 then x else y
noncomputable def plL (a0 a1 b0 b1 : Int) (i : Nat) : List Int := unlikeL (get2 a0 a1 i) (get2 b0 b1 i)
def plF (i : Nat) (p : Int) : Int := 10 * (i : Int) + p
noncomputable def leastF (l : List Int) : Int := if l = [] then 22 else min 20 (min (5 + 2 * l.headD 0) (4 + 2 * (19 - l.getLastD 0)))
section
variable {prog : Program} {w : World} {A : Around} {E : Value → Shared → Prop} {s : Shared} {h₀ : Heap} {L : Addr} {m : Str → Option Value} {news : List (Addr × Obj)}
theorem item_first {value slice : PySem.Expr} {D : Addr} {ys : List Value} {ns : List Int} {u : Tok} {Q : Value → Shared → Prop} (hl : s.heap.IsList D ys.toArray) (hI : IntsAre ys ns) (hne : ns ≠ []) (h : ∀ t, Q (.int (ns.headD 0) t) s)
    (hs : subscripted slice false (.ref D) (.int 0 u) = operate [.ref D, .int 0 u] (getItem (.ref D) (.int 0 u)) := by with_unfolding_all rfl) :
    wpAny (model prog w) A (subscriptTail value slice (.ref D) (.int 0 u)) Q E s := by
  cases hI with
  | nil => exact absurd rfl hne
  | cons x t r => exact tail_any hl.typeIs slot_list_getitem.lookup (wpAny_getItem_list hl (by decide) (by decide) (x := .int x t) (by simp) (h t)) hs
theorem ints_last : ∀ {ys : List Value} {ns : List Int}, IntsAre ys ns → ns ≠ [] → ∃ t, ys[ys.length - 1]? = some (.int (ns.getLastD 0) t)
  | _, _, .nil, h => absurd rfl h
  | _, _, .cons x t .nil, _ => ⟨t, rfl⟩
  | _, _, .cons x t (.cons x' t' r), _ => by
    obtain ⟨u, hu⟩ := ints_last (.cons x' t' r) (by simp)
    exact ⟨u, by simpa using hu⟩
theorem item_last {value slice : PySem.Expr} {D : Addr} {ys : List Value} {ns : List Int} {u : Tok} {Q : Value → Shared → Prop} (hl : s.heap.IsList D ys.toArray) (hI : IntsAre ys ns) (hne : ns ≠ []) (h : ∀ t, Q (.int (ns.getLastD 0) t) s)
    (hs : subscripted slice false (.ref D) (.int (-1) u) = operate [.ref D, .int (-1) u] (getItem (.ref D) (.int (-1) u)) := by with_unfolding_all rfl) :
    wpAny (model prog w) A (subscriptTail value slice (.ref D) (.int (-1) u)) Q E s := by
  obtain ⟨t, ht⟩ := ints_last hI hne
  have hlen : 0 < ys.length := by
    have := (List.getElem?_eq_some_iff.mp ht).1
    omega
  refine tail_any hl.typeIs slot_list_getitem.lookup (wpAny_getItem_list_neg hl (by decide) (by rw [List.size_toArray]; omega) (by decide) (x := .int (ns.getLastD 0) t) ?_ (h t)) hs
  have e : (-1 + (ys.toArray.size : Int)).toNat = ys.length - 1 := by rw [List.size_toArray]; omega
  rw [e]
  simpa using ht
theorem min3_K {a b c : Int} {t u x : Tok} {Q : Value → Shared → Prop} (F : Fr h₀ L s.heap m) (N : News h₀ L s.heap news) (hh : A.handled = none)
    (h : ∀ t' h' tk, Fr h₀ L h' m → News h₀ L h' news → Q (.int (min a (min b c)) t') { s with heap := h', toks := tk }) :
    wpAny (model prog w) A (call (.builtin "min") [.int a t, .int b u, .int c x]) Q E s := by
  refine min_three_ints hh fun h' tk hk => ?_
  have F' := F.keeps hk
  have N' := N.grown hk
  split
  · split
    · rw [show min a (min b c) = c by omega] at h; exact h _ _ _ F' N'
    · rw [show min a (min b c) = b by omega] at h; exact h _ _ _ F' N'
  · split
    · rw [show min a (min b c) = c by omega] at h; exact h _ _ _ F' N'
    · rw [show min a (min b c) = a by omega] at h; exact h _ _ _ F' N'
end
end Mine

/-! L1 -/
namespace Mine
set_option Elab.async false
set_option linter.unusedVariables false
local macro_rules | `(tactic| k_room) => `(tactic| ((try simp only [depth_under_make, depth_under_kw, depth_in1, depth_deeper, depth_caller, recursionLimit]); omega))
local macro_rules | `(tactic| walk_at "MINE enterC") => `(tactic| (refine wpAny_call ?_; k_dflt (refine' code_defCG ?k1 ?k2 ?k3 ?k4 ?k5 ?kA ?kF ?kK ?k6 ?k7 ?k8 ?k9 ?kB ?kD ?_ ?c2 ?c3 ?c4; (case kA => exact rfl); (case kF => exact rfl); (case kK => assumption); (case k1 => k_asm); (case k2 => k_asm); (case k3 => k_asm); (case k4 => k_asm); (case k5 => k_asm); (case k6 => k_is); (case k7 => k_is); (case k8 => k_room); (case k9 => exact BindsTo.of_eq rfl); (case kB => exact rfl); (case kD => decide +kernel); (case c2 => exact rfl); (case c3 => exact rfl); (case c4 => exact rfl); k_whole)))
local macro_rules | `(tactic| walk_at "MINE fill") => `(tactic| (w_on; (rename Frag.In _ _ => X0); revert X0; k_fill; intro X; w_top on))
local macro_rules | `(tactic| walk_at "MINE dp") => `(tactic| ((try simp only [depth_under_make, depth_under_kw, depth_in1, depth_deeper, depth_caller, Around.deeper_units]); omega))
local macro_rules | `(tactic| walk_at "call ref") => `(tactic| (k_here; (with_reducible show wpAny _ _ (call (Value.ref 106) [Value.int _ _, Value.int _ _]) _ _ _); refine Stop.out ?_))
local macro_rules | `(tactic| walk_at "exec Assign cons ListComp") => `(tactic| refine Stop.out ?_)

local macro_rules | `(tactic| walk_at "subscriptTail Name Constant ref int") => `(tactic| (k_here; (with_reducible show wpAny _ _ (subscriptTail _ _ (Value.ref _) (Value.int 0 _)) _ _ _); k_dflt (refine' item_first ?k1 ?k2 ?k3 ?_ ?k4; (case k1 => exact News.isList (by k_asm) (by k_mem)); (case k2 => assumption); (case k3 => exact of_decide_eq_false (by assumption)); (case k4 => with_unfolding_all rfl); k_whole); intro t9))
local macro_rules | `(tactic| walk_at "subscriptTail Name UnaryOp ref int") => `(tactic| (k_here; (show wpAny _ _ (subscriptTail _ _ (Value.ref _) (Value.int (-1) _)) _ _ _); k_dflt (refine' item_last ?k1 ?k2 ?k3 ?_ ?k4; (case k1 => exact News.isList (by k_asm) (by k_mem)); (case k2 => assumption); (case k3 => exact of_decide_eq_false (by assumption)); (case k4 => with_unfolding_all rfl); k_whole); intro t9))
local macro_rules | `(tactic| walk_at "call builtin:min") => `(tactic| (k_here; (show wpAny _ _ (call (Value.builtin "min") [Value.int _ _, Value.int _ _, Value.int _ _]) _ _ _); k_dflt (refine' min3_K ?k1 ?k2 ?k3 ?_; (case k1 => k_asm); (case k2 => k_asm); (case k3 => exact rfl); k_whole); intro t9 h9 tk9 F9 N9; (try k_sweep)))
theorem fold_len (c : Int → Prop) [DecidablePred c] (g : Int → Int) : ∀ (ks l : List Int), (ks.foldl (fun l k => if c k then l ++ [g k] else l) l).length ≤ l.length + ks.length
  | [], l => Nat.le_refl _
  | k :: ks, l => by
    rw [List.foldl_cons]
    refine Nat.le_trans (fold_len c g ks _) ?_
    split
    · simp only [List.length_append, List.length_cons, List.length_nil]; omega
    · simp only [List.length_cons]; omega
theorem unlikeL_len (n1 n2 : Int) : (unlikeL n1 n2).length ≤ 10 := by
  have h : (unlikeP n1 n2).length ≤ 9 := Nat.le_trans (fold_len _ _ _ _) (by decide)
  unfold unlikeL
  split
  · omega
  · simp only [List.length_append, List.length_cons, List.length_nil]; omega
theorem flat_small {a0 a1 b0 b1 : Int} {i j : Nat} (hi : i < 2) : (flatI (plL a0 a1 b0 b1) plF i ++ ((plL a0 a1 b0 b1 i).take j).map (plF i)).length ≤ sizeLine := by
  have h1 : ((plL a0 a1 b0 b1 i).take j).length ≤ 10 := Nat.le_trans (List.length_take_le' _ _) (unlikeL_len _ _)
  have h2 : (flatI (plL a0 a1 b0 b1) plF i).length ≤ 10 := by
    have hi2 : i = 0 ∨ i = 1 := by omega
    rcases hi2 with rfl | rfl
    · simp [flatI]
    · have : (plL a0 a1 b0 b1 0).length ≤ 10 := unlikeL_len _ _
      simpa [flatI] using this
  rw [List.length_append, List.length_map, sizeLine_eq]
  omega
set_option maxRecDepth 100000 in
set_option maxHeartbeats 8000000 in
theorem least_ok (w : World) (loose : List Str) (mean : ExcName → Option Value) (mg mb : Str → Option Value) (lf lm : Addr) (a0 a1 b0 b1 : Int) (ta0 ta1 tb0 tb1 : Tok) (k1 k2 : Nat)
   (dp un gd cn cs a ccd cl outer A₀ base h₀ L m s Q) (B : Below A₀ base outer h₀) (F : Fr h₀ L s.heap m) (X : (hd.heap_39 w.params).In h₀) (T : Top topProg loose mean mg mb h₀) (hk : cs.kind = .function)
   (N : News h₀ L s.heap [(lf, W.listOf #[.int a0 ta0, .int a1 ta1] k1), (lm, W.listOf #[.int b0 tb0, .int b1 tb1] k2)])
   (hdp : dp + 25 < 1000) (hun : un + 300 < 9900)
   (hret : ∀ t h' tk', Fr h₀ L h' m → (∀ b o, s.heap.get? b = some o → h'.get? b = some o) → Q (.int (leastF (flatI (plL a0 a1 b0 b1) plF 2)) t) { s with heap := h', toks := tk' }) :
   wpAny (model PySem.Challenge.rw_mq0191_01.row.prog w) (ktrTop dp un gd cn cs L a ccd cl outer) (call (.ref 111) [.ref lf, .ref lm]) Q (fun _ _ => False) s := by
  walk_at "MINE fill"
  walk_at "MINE enterC"
  intro g' L' h' tk' cells' FG' F' N' Y' B' X' T' l1 GS'
  k_cells Y'
  simp only [List.cons_append, List.nil_append] at N'
  refine wpAny_noRaise ?_
  (try dsimp only)
  k_steps
  refine unstop ?_
  k_dflt (refine assign_comp2 (n := 2) (pl := plL a0 a1 b0 b1) (f := plF) F' N' rfl rfl (by with_unfolding_all rfl) (by with_unfolding_all rfl) (by decide) rfl (by decide) rfl rfl (by decide) rfl rfl (by intro _; rfl) (by intro _ _; rfl) ?hsz ?src ?step ?helt ?done)
  case hsz => exact fun i j hi => flat_small hi
  case src =>
    k_steps
    (rename ∀ (b : Addr) (o : Obj), _ → _ => hkp); exact hkp _ _ (by assumption)
  case step =>
    intro i t C h3 tk3 m₃ hi F3 N3 hC hm
    clear F' N'
    have hi2 : i = 0 ∨ i = 1 := by omega
    rcases hi2 with rfl | rfl
    all_goals k_steps
    all_goals refine unstop ?_
    · refine unlike_ok w loose mean mg mb a0 b0 _ _ _ _ _ _ _ _ _ _ _ _ _ _ _ _ _ _ B' F3 X' T' rfl ?_ ?_ ?_
      · walk_at "MINE dp"
      · walk_at "MINE dp"
      intro D ws k h' tk' F' hk' hD hn hI
      exact ⟨D, ws, k, h', tk', rfl, rfl, hk', hD, hn, hI⟩
    · refine unlike_ok w loose mean mg mb a1 b1 _ _ _ _ _ _ _ _ _ _ _ _ _ _ _ _ _ _ B' F3 X' T' rfl ?_ ?_ ?_
      · walk_at "MINE dp"
      · walk_at "MINE dp"
      intro D ws k h' tk' F' hk' hD hn hI
      exact ⟨D, ws, k, h', tk', rfl, rfl, hk', hD, hn, hI⟩
  case helt =>
    intro i p t t' C h3 tk3 m₃ hi hp hC hm hm' F3
    clear F' N'
    k_steps
  case done =>
    intro D ys k h3 tk3 F3 N3 off hI
    clear F' N'
    k_steps
    all_goals (rename Fr g' _ _ _ => F9; rename Fr h₀ _ _ _ => kF; rename News g' _ _ _ => N9; rename (decide _ = _) => hd0)
    · refine ret_I (Q := Q) hret ?_ kF (elt_after (InElt.start _) GS' N F9 N9 (List.forall_mem_cons.mpr ⟨by k_mem, List.forall_mem_cons.mpr ⟨by k_mem, List.forall_mem_nil _⟩⟩))
      unfold leastF
      rw [if_pos (of_decide_eq_true hd0)]
    · refine ret_I (Q := Q) hret ?_ kF (elt_after (InElt.start _) GS' N F9 N9 (List.forall_mem_cons.mpr ⟨by k_mem, List.forall_mem_cons.mpr ⟨by k_mem, List.forall_mem_nil _⟩⟩))
      unfold leastF
      rw [if_neg (of_decide_eq_false hd0)]
end Mine

/-! R0 -/
namespace Mine
set_option Elab.async false
set_option linter.unusedVariables false
section
variable {w : World} {loose : List Str} {mean : ExcName → Option Value} {mg mb : Str → Option Value} {dp un : Nat} {gd : Option (List Code)} {cn : Str} {cs : Scope} {a : Addr} {ccd : Value} {cl : List (Str × Addr)} {outer : List Env} {A₀ : Around} {base h₀ : Heap} {L : Addr} {m : Str → Option Value} {s : Shared} {Q E : Value → Shared → Prop} {news : List (Addr × Obj)}
theorem cram_use {x : Str} {n : Int} {t t0 : Tok} (B : Below A₀ base outer h₀) (F : Fr h₀ L s.heap m) (X : (hd.heap_39 w.params).In h₀) (T : Top topProg loose mean mg mb h₀) (N : News h₀ L s.heap news) (hk : cs.kind = .function)
    (hdp : dp + 20 < 1000) (hun : un + 100 < 9900) (hx : x.length = 20) (hret : ∀ t h' tk', Fr h₀ L h' m → News h₀ L h' news → Q (.str (cramF x n) t) { s with heap := h', toks := tk' }) :
    wpAny (model PySem.Challenge.rw_mq0191_01.row.prog w) (ktrTop dp un gd cn cs L a ccd cl outer) (call (.ref 21) [.str x t0, .int n t]) Q E s :=
  wpAny_noRaise (cram_ok w loose mean mg mb x n t t0 hx dp un gd cn cs a ccd cl outer A₀ base h₀ L m s Q B F X T hk hdp hun fun t' h' tk' F' hk' => hret t' h' tk' F' (N.grown hk'))
theorem least_use {lf lm : Addr} {a0 a1 b0 b1 : Int} {ta0 ta1 tb0 tb1 : Tok} {k1 k2 : Nat} (B : Below A₀ base outer h₀) (F : Fr h₀ L s.heap m) (X : (hd.heap_39 w.params).In h₀) (T : Top topProg loose mean mg mb h₀) (N : News h₀ L s.heap news) (hk : cs.kind = .function)
    (hdp : dp + 25 < 1000) (hun : un + 300 < 9900) (h1 : (lf, W.listOf #[.int a0 ta0, .int a1 ta1] k1) ∈ news) (h2 : (lm, W.listOf #[.int b0 tb0, .int b1 tb1] k2) ∈ news)
    (hret : ∀ t h' tk', Fr h₀ L h' m → News h₀ L h' news → Q (.int (leastF (flatI (plL a0 a1 b0 b1) plF 2)) t) { s with heap := h', toks := tk' }) :
    wpAny (model PySem.Challenge.rw_mq0191_01.row.prog w) (ktrTop dp un gd cn cs L a ccd cl outer) (call (.ref 111) [.ref lf, .ref lm]) Q E s :=
  wpAny_noRaise (least_ok w loose mean mg mb lf lm a0 a1 b0 b1 ta0 ta1 tb0 tb1 k1 k2 dp un gd cn cs a ccd cl outer A₀ base h₀ L m s Q B F X T hk
    (fun p hp => by rcases List.mem_cons.mp hp with rfl | hp; exact N _ h1; rw [List.mem_singleton.mp hp]; exact N _ h2) hdp hun fun t' h' tk' F' hk' => hret t' h' tk' F' (N.grown hk'))
end
abbrev rngObj (a b : Int) (t u v : Tok) : Obj := { cls := .type "range", dict := none, data := .fields #[.int a t, .int b u, .int 1 v], slots := #[] }
theorem range_K {prog : Program} {w : World} {A : Around} {E : Value → Shared → Prop} {s : Shared} {h₀ : Heap} {L : Addr} {m : Str → Option Value} {news : List (Addr × Obj)} {a b : Int} {t u : Tok} {Q : Value → Shared → Prop}
    (F : Fr h₀ L s.heap m) (N : News h₀ L s.heap news) (h : ∀ r t' u' v' h' tk, Fr h₀ L h' m → News h₀ L h' ((r, rngObj a b t' u' v') :: news) → (∀ p ∈ news, p.1 < r) → Q (.ref r) { s with heap := h', toks := tk }) :
    wpAny (model prog w) A (call (.type "range") [.int a t, .int b u]) Q E s :=
  call_range_2 (h _ _ _ _ _ _ (F.push _) (News.push F N _) fun p hp => Heap.lt_size (N p hp).1)
theorem code_hd {w : World} {g : Heap} (X : (hd.heap_39 w.params).In g) : CodeHd g 117 113 := ⟨_, _, _, _, _, _, _, _, _, X 117 _ rfl, rfl, rfl, rfl, rfl, rfl, rfl, rfl, rfl, by decide⟩
def joinF (x y : Str) : Str := Txt.join (Str.ofString "") [x, y]
theorem empty_cps : (Str.ofString "").cps = #[] := by decide
theorem joinF_cps (x y : Str) : (joinF x y).cps = x.cps ++ y.cps := by
  unfold joinF
  show (Builtin.Str.glued (Str.ofString "") [x, y]).cps = _
  rw [StrLaws.glued_eq_join]
  show (x ++ Str.ofString "" ++ y).cps = _
  rw [Str.cps_append, Str.cps_append, empty_cps]
  simp
theorem joinF_len {x y : Str} (hx : x.length = 10) (hy : y.length = 10) : (joinF x y).length = 20 := by
  unfold Str.length at *
  rw [joinF_cps, Array.size_append, hx, hy]
theorem join_flat : ∀ parts : List Str, (Txt.join (Str.ofString "") parts).cps.toList = parts.flatMap fun p => p.cps.toList := by
  have key : ∀ parts : List Str, (Str.join (Str.ofString "") parts).cps.toList = parts.flatMap fun p => p.cps.toList := by
    intro parts
    induction parts with
    | nil => rfl
    | cons x r ih =>
      cases r with
      | nil => show x.cps.toList = _; simp
      | cons y r =>
        show (x ++ Str.ofString "" ++ Str.join (Str.ofString "") (y :: r)).cps.toList = _
        rw [Str.cps_append, Str.cps_append, empty_cps, List.flatMap_cons, ← ih]
        simp
  intro parts
  unfold Txt.join
  rw [StrLaws.glued_eq_join]
  exact key parts
noncomputable def rowCode (n : Int) (i : Nat) : Nat := (rowChar n i).cps.getD 0 0
theorem rowCode_is (n : Int) (i : Nat) : (rowChar n i).cps.toList = [rowCode n i] := by
  have h := rowChar_len n i
  unfold rowCode
  unfold Str.length at h
  generalize rowChar n i = x at h
  obtain ⟨⟨l⟩⟩ := x
  have h' : l.length = 1 := h
  cases l with
  | nil => simp at h'
  | cons c r =>
    cases r with
    | nil => rfl
    | cons d r => simp at h'
theorem rowCode_iff (n k : Int) (i : Nat) : rowCode n i = rowCode k i ↔ rowChar n i = rowChar k i := by
  constructor
  · intro h
    refine Str.ext' (Array.toList_inj.mp ?_)
    rw [rowCode_is, rowCode_is, h]
  · intro h
    unfold rowCode
    rw [h]
theorem fm_codes (n : Int) : (fm n).cps.toList = (List.range 10).map (rowCode n) := by
  unfold fm chars
  rw [join_flat, List.flatMap_map]
  have : (fun i => (rowChar n i).cps.toList) = fun i => [rowCode n i] := funext fun i => rowCode_is n i
  rw [this]
  simp [List.range, List.range.loop]
theorem fm_len (n : Int) : (fm n).length = 10 := by
  unfold Str.length
  rw [← Array.length_toList, fm_codes]
  simp
theorem join2_K {prog : Program} {w : World} {A : Around} {E : Value → Shared → Prop} {s : Shared} {h₀ : Heap} {L : Addr} {news : List (Addr × Obj)} {lr : Addr} {x y : Str} {t u v : Tok} {k : Nat} {Q : Value → Shared → Prop}
    (N : News h₀ L s.heap news) (hm : (lr, W.listOf #[.str x t, .str y u] k) ∈ news) (hx : x.length = 10) (hy : y.length = 10) (h : ∀ t' k', Q (.str (joinF x y) t') { s with toks := k' }) :
    wpAny (model prog w) A (call (.builtin "str.join") [.str (Str.ofString "") v, .ref lr]) Q E s :=
  join_listW (items := #[.str x t, .str y u]) (ys := [x, y]) ⟨_, (N _ hm).1, rfl, _, rfl⟩ (.cons x t (.cons y u .nil)) (by decide) (by simp [hx, hy]) h
end Mine

/-! T5 -/
set_option Elab.async false
set_option maxRecDepth 100000
set_option linter.unusedVariables false
namespace Mine
section
variable {prog : Program} {w : World} {A : Around} {s : Shared} {env : Env} {g : Heap} {x : Str} {px : Pos} {body orelse : List Stmt} {Q : Flow → Shared → Prop}
theorem for_rng {r : Addr} {a b : Int} {t u v : Tok} {n : Nat} {m : Str → Option Value} {news : List (Addr × Obj)}
    (hh : A.handled = none) (F : Fr g env.locals s.heap m) (N : News g env.locals s.heap news) (hr : IsRange s.heap r a b 1 t u v) (hsm : Builtin.Range.small a b 1 = true) (hn : Builtin.Range.rangeSize a b 1 = ((n : Nat) : Int))
    (loop : ∀ I, (∀ p ∈ news, p.1 < I) → ∃ J : Nat → (Str → Option Value) → List (Addr × Obj) → Prop, J 0 m news ∧
      (∀ i ti m₁ news₁ h tk o, i < n → o.cls = .type "range_iterator" → J i m₁ news₁ → Fr g env.locals h m₁ → News g env.locals h ((I, o) :: news₁) →
        wpAny (model prog w) A (assign (.Name x px) env (.int (a + (i : Int)) ti)) (fun _ s₂ => wpAny (model prog w) A (execs body env) (TPost g env.locals [(I, o)] (J (i + 1)) { s with heap := h, toks := tk } Q) (fun _ _ => False) s₂) (fun _ _ => False) { s with heap := h, toks := tk }) ∧
      (∀ m₁ news₁ h tk, J n m₁ news₁ → Fr g env.locals h m₁ → News g env.locals h news₁ →
        wpAny (model prog w) A (execs orelse env) Q (fun _ _ => False) { s with heap := h, toks := tk })) :
    wpAny (model prog w) A (pyIter (.ref r)) (fun it s₂ => codeAny (model prog w) A (.forLoop (.Name x px) it body orelse env) (fun r s' => match r with | .ok f => Q f s' | .error _ => False) s₂) (fun _ _ => False) s := by
  refine wpAny_pyIter_range hr hsm ?_
  rw [hn]
  have hlt : ∀ p ∈ news, p.1 < s.heap.objs.size := fun p hp => Heap.lt_size (N p hp).1
  obtain ⟨J, j0, turn, done⟩ := loop s.heap.objs.size hlt
  have key : ∀ k i h tk m₁ news₁ o, i + k = n → o = ({ cls := .type "range_iterator", dict := none, data := .fields #[rawInt (a + (i : Int)), rawInt ((n : Int) - (i : Int)), rawInt 1], slots := #[] } : Obj) → J i m₁ news₁ → (∀ q ∈ news₁, q.1 ≠ s.heap.objs.size) → Fr g env.locals h m₁ → News g env.locals h ((s.heap.objs.size, o) :: news₁) →
      codeAny (model prog w) A (.forLoop (.Name x px) (.ref s.heap.objs.size) body orelse env) (fun r s' => match r with | .ok f => Q f s' | .error _ => False) { s with heap := h, toks := tk } := by
    intro k
    induction k with
    | zero =>
      intro i h tk m₁ news₁ o hi ho hj hoff F₁ N₁
      have hi' : i = n := by omega
      subst hi'
      refine for_turn1 ?_
      have hI := N₁ _ (.head _)
      have hit : IsRangeIter h s.heap.objs.size (a + (i : Int)) ((i : Int) - (i : Int)) 1 := by rw [ho] at hI; exact hI.1
      refine wpAny_pyNext_range_end hh hit (by omega) fun h' he => ?_
      dsimp only
      refine wpAny_mono (done m₁ news₁ h' tk hj ⟨F₁.ns.at' fun x e => he _ _ (Ne.symm hI.2.1) e, fun b x e => he _ _ (fun q => ?_) (F₁.keep b x e), F₁.above⟩ fun p hp => ⟨he _ _ (hoff p hp) (N₁ p (.tail _ hp)).1, (N₁ p (.tail _ hp)).2⟩) (fun _ _ e => e) fun _ _ e => e
      have := hI.2.2
      rw [← q] at this
      rw [this] at e
      cases e
    | succ k ih =>
      intro i h tk m₁ news₁ o hi ho hj hoff F₁ N₁
      have hlt' : i < n := by omega
      have hI := N₁ _ (.head _)
      have hit : IsRangeIter h s.heap.objs.size (a + (i : Int)) ((n : Int) - (i : Int)) 1 := by rw [ho] at hI; exact hI.1
      refine for_turn1 ?_
      refine wpAny_pyNext_range_item hit (by omega) fun h' hit' hs => ?_
      dsimp only
      refine wpAny_pure ?_
      obtain ⟨F₂, N₂⟩ := upd_iter F₁ N₁ hoff hit' fun b x hb e => hs.extBut b x hb e
      refine wpAny_mono (turn i tk m₁ news₁ h' (tk + 1) _ hlt' rfl hj F₂ N₂) (fun _ s₂ h₂ => wpAny_mono h₂ (fun f s₃ p => ?_) fun _ _ e => e) fun _ _ e => e
      have fin : TEnd g env.locals [(s.heap.objs.size, { cls := .type "range_iterator", dict := none, data := .fields #[rawInt (a + (i : Int) + 1), rawInt ((n : Int) - (i : Int) - 1), rawInt 1], slots := #[] })] (J (i + 1)) { s with heap := h', toks := tk + 1 } s₃ → codeAny (model prog w) A (.forLoop (.Name x px) (.ref s.heap.objs.size) body orelse env) (fun r s' => match r with | .ok f => Q f s' | .error _ => False) s₃ := by
        rintro ⟨h₃, tk₃, m₃, news₃, rfl, F₃, N₃, off₃, j₃⟩
        refine ih (i + 1) h₃ tk₃ m₃ news₃ _ (by omega) ?_ j₃ (fun q hq => off₃ _ (.head _) q hq) F₃ N₃
        have e1 : a + (i : Int) + 1 = a + ((i + 1 : Nat) : Int) := by push_cast; omega
        have e2 : (n : Int) - (i : Int) - 1 = (n : Int) - ((i + 1 : Nat) : Int) := by push_cast; omega
        rw [e1, e2]
      cases f with
      | ret v => exact p
      | brk => exact p
      | next => exact fin p
      | cont => exact fin p
  refine key n 0 _ s.toks m news _ (by omega) rfl j0 (fun q hq => Nat.ne_of_lt (hlt q hq)) (F.push _) ?_
  have := News.push F N ({ cls := .type "range_iterator", dict := none, data := .fields #[rawInt (a + ((0 : Nat) : Int)), rawInt ((n : Int) - ((0 : Nat) : Int)), rawInt 1], slots := #[] } : Obj)
  simpa using this
end
theorem item_at {prog : Program} {w : World} {A : Around} {E : Value → Shared → Prop} {s : Shared} {value slice : PySem.Expr} {D : Addr} {ys : List Value} {k : Int} {i : Nat} {v : Value} {u : Tok} {Q : Value → Shared → Prop} (hl : s.heap.IsList D ys.toArray) (he : k = (i : Int)) (hi : i < 1000) (hx : ys[i]? = some v) (h : Q v s)
    (hs : subscripted slice false (.ref D) (.int k u) = operate [.ref D, .int k u] (getItem (.ref D) (.int k u)) := by with_unfolding_all rfl) :
    wpAny (model prog w) A (subscriptTail value slice (.ref D) (.int k u)) Q E s :=
  tail_any hl.typeIs slot_list_getitem.lookup (wpAny_getItem_list hl (by omega) (by omega) (by subst he; simpa using hx) h) hs
end Mine

/-! T6 -/
set_option Elab.async false
set_option maxRecDepth 100000
set_option linter.unusedVariables false
namespace Mine
def yesL (least : Int) (i : Nat) : List Int := (rangeKs (-1) i).filter fun w => decide (w < least)
def noL (least : Int) (i : Nat) : List Int := (rangeKs (-1) i).filter fun w => !decide (w < least)
theorem rangeKs_succ (a : Int) (i : Nat) : rangeKs a (i + 1) = rangeKs a i ++ [a + (i : Int)] := by
  unfold rangeKs
  rw [List.range_succ, List.map_append]
  rfl
theorem yesL_lt {least : Int} {i : Nat} (h : -1 + (i : Int) < least) : yesL least (i + 1) = yesL least i ++ [-1 + (i : Int)] := by
  unfold yesL
  rw [rangeKs_succ, List.filter_append]
  simp [h]
theorem yesL_ge {least : Int} {i : Nat} (h : ¬ -1 + (i : Int) < least) : yesL least (i + 1) = yesL least i := by
  unfold yesL
  rw [rangeKs_succ, List.filter_append]
  simp [h]
theorem noL_lt {least : Int} {i : Nat} (h : -1 + (i : Int) < least) : noL least (i + 1) = noL least i := by
  unfold noL
  rw [rangeKs_succ, List.filter_append]
  simp [h]
theorem noL_ge {least : Int} {i : Nat} (h : ¬ -1 + (i : Int) < least) : noL least (i + 1) = noL least i ++ [-1 + (i : Int)] := by
  unfold noL
  rw [rangeKs_succ, List.filter_append]
  simp [h]
def SEnd (g : Heap) (L I : Addr) (o : Obj) (no yes : Addr) (rest : List (Addr × Obj)) (P : (Str → Option Value) → Prop) (least : Int) (i : Nat) (s s₃ : Shared) : Prop :=
  ∃ h' tk m' ys ns ky kn, s₃ = { s with heap := h', toks := tk } ∧ Fr g L h' m' ∧ News g L h' ((I, o) :: (no, W.listOf ns.toArray kn) :: (yes, W.listOf ys.toArray ky) :: rest) ∧ P m' ∧ IntsAre ys (yesL least i) ∧ IntsAre ns (noL least i)
def SPost (g : Heap) (L I : Addr) (o : Obj) (no yes : Addr) (rest : List (Addr × Obj)) (P : (Str → Option Value) → Prop) (least : Int) (i : Nat) (s : Shared) (f : Flow) (s₃ : Shared) : Prop :=
  match f with
  | .ret _ => False
  | .brk => False
  | _ => SEnd g L I o no yes rest P least i s s₃
theorem SEnd.intro {g : Heap} {L I : Addr} {o : Obj} {no yes : Addr} {rest : List (Addr × Obj)} {P : (Str → Option Value) → Prop} {least : Int} {i : Nat} {s : Shared} {h' : Heap} {tk : Nat} {m' : Str → Option Value} {ys ns : List Value} {ky kn : Nat}
    (F : Fr g L h' m') (N : News g L h' ((I, o) :: (no, W.listOf ns.toArray kn) :: (yes, W.listOf ys.toArray ky) :: rest)) (p : P m') (h1 : IntsAre ys (yesL least i)) (h2 : IntsAre ns (noL least i)) : SEnd g L I o no yes rest P least i s { s with heap := h', toks := tk } :=
  ⟨h', tk, m', ys, ns, ky, kn, rfl, F, N, p, h1, h2⟩
section
variable {prog : Program} {w : World} {A : Around} {s : Shared} {env : Env} {g : Heap} {x : Str} {px : Pos} {body : List Stmt} {Q : Flow → Shared → Prop}
theorem split_loop {r no yes : Addr} {t u v : Tok} {m : Str → Option Value} {rest : List (Addr × Obj)} {least : Int} (P : (Str → Option Value) → Prop)
    (hh : A.handled = none) (F : Fr g env.locals s.heap m) (N : News g env.locals s.heap ((no, W.listOf #[] 0) :: (yes, W.listOf #[] 0) :: rest)) (hr : IsRange s.heap r (-1) 22 1 t u v) (hP : P m)
    (turn : ∀ I i ti m₁ ys ns ky kn h tk o, (∀ p ∈ ((no, W.listOf #[] 0) :: (yes, W.listOf #[] 0) :: rest : List (Addr × Obj)), p.1 < I) → i < 23 → o.cls = .type "range_iterator" → P m₁ → IntsAre ys (yesL least i) → IntsAre ns (noL least i) → Fr g env.locals h m₁ → News g env.locals h ((I, o) :: (no, W.listOf ns.toArray kn) :: (yes, W.listOf ys.toArray ky) :: rest) →
        wpAny (model prog w) A (assign (.Name x px) env (.int (-1 + (i : Int)) ti)) (fun _ s₂ => wpAny (model prog w) A (execs body env) (SPost g env.locals I o no yes rest P least (i + 1) { s with heap := h, toks := tk }) (fun _ _ => False) s₂) (fun _ _ => False) { s with heap := h, toks := tk })
    (done : ∀ m₁ ys ns ky kn h tk, P m₁ → IntsAre ys (yesL least 23) → IntsAre ns (noL least 23) → Fr g env.locals h m₁ → News g env.locals h ((no, W.listOf ns.toArray kn) :: (yes, W.listOf ys.toArray ky) :: rest) → Q .next { s with heap := h, toks := tk }) :
    wpAny (model prog w) A (pyIter (.ref r)) (fun it s₂ => codeAny (model prog w) A (.forLoop (.Name x px) it body [] env) (fun r s' => match r with | .ok f => Q f s' | .error _ => False) s₂) (fun _ _ => False) s := by
  refine for_rng (n := 23) hh F N hr (by decide) (by decide) ?_
  intro I hI
  refine ⟨fun i m₁ news₁ => P m₁ ∧ ∃ ys ns ky kn, IntsAre ys (yesL least i) ∧ IntsAre ns (noL least i) ∧ news₁ = (no, W.listOf ns.toArray kn) :: (yes, W.listOf ys.toArray ky) :: rest, ⟨hP, [], [], 0, 0, .nil, .nil, rfl⟩, ?_, ?_⟩
  · rintro i ti m₁ news₁ h tk o hi ho ⟨p1, ys, ns, ky, kn, h1, h2, rfl⟩ F1 N1
    refine wpAny_mono (turn I i ti m₁ ys ns ky kn h tk o hI hi ho p1 h1 h2 F1 N1) (fun _ s₂ hs => wpAny_mono hs (fun f s₃ p => ?_) fun _ _ e => e) fun _ _ e => e
    have fin : SEnd g env.locals I o no yes rest P least (i + 1) { s with heap := h, toks := tk } s₃ → TEnd g env.locals [(I, o)] (fun m₁ news₁ => P m₁ ∧ ∃ ys ns ky kn, IntsAre ys (yesL least (i + 1)) ∧ IntsAre ns (noL least (i + 1)) ∧ news₁ = (no, W.listOf ns.toArray kn) :: (yes, W.listOf ys.toArray ky) :: rest) { s with heap := h, toks := tk } s₃ := by
      rintro ⟨h', tk', m', ys', ns', ky', kn', rfl, F', N', p', h1', h2'⟩
      refine TEnd.intro F' N' (fun p hp q hq => ?_) ⟨p', ys', ns', ky', kn', h1', h2', rfl⟩
      rw [List.mem_singleton.mp hp]
      rcases List.mem_cons.mp hq with rfl | hq
      · exact Nat.ne_of_lt (hI (no, W.listOf #[] 0) (.head _))
      · rcases List.mem_cons.mp hq with rfl | hq
        · exact Nat.ne_of_lt (hI (yes, W.listOf #[] 0) (.tail _ (.head _)))
        · exact Nat.ne_of_lt (hI _ (.tail _ (.tail _ hq)))
    cases f with
    | ret v => exact p.elim
    | brk => exact p.elim
    | next => exact fin p
    | cont => exact fin p
  · rintro m₁ news₁ h tk ⟨p1, ys, ns, ky, kn, h1, h2, rfl⟩ F1 N1
    exact wpAny_execs_nil (done m₁ ys ns ky kn h tk p1 h1 h2 F1 N1)
end
end Mine

/-! T7 -/
set_option Elab.async false
set_option maxRecDepth 100000
set_option linter.unusedVariables false
namespace Mine
theorem yes_full : ∀ {least : Int}, 0 ≤ least → least ≤ 22 → yesL least 23 = rangeKs (-1) (least - -1).toNat ∧ noL least 23 = rangeKs least (22 - least).toNat := by
  intro least h0 h1
  have key : ∀ n : Nat, n < 23 → yesL (n : Int) 23 = rangeKs (-1) ((n : Int) - -1).toNat ∧ noL (n : Int) 23 = rangeKs (n : Int) (22 - (n : Int)).toNat := by decide +kernel
  have := key least.toNat (by omega)
  rwa [Int.toNat_of_nonneg h0] at this
section
variable {prog : Program} {w : World} {A : Around} {E : Value → Shared → Prop} {s : Shared}
theorem eq_pair {T1 T2 y n D1 D2 : Addr} {k1 k2 : Nat} {ys ns us vs : List Value} {p q : List Int} {Q : Value → Shared → Prop}
    (h1 : s.heap.get? T1 = some { cls := .type "tuple", data := .seq #[.ref y, .ref n] k1 }) (h2 : s.heap.get? T2 = some { cls := .type "tuple", data := .seq #[.ref D1, .ref D2] k2 })
    (hy : s.heap.IsList y ys.toArray) (hn : s.heap.IsList n ns.toArray) (hD1 : s.heap.IsList D1 us.toArray) (hD2 : s.heap.IsList D2 vs.toArray)
    (iy : IntsAre ys p) (i1 : IntsAre us p) (iq : IntsAre ns q) (i2 : IntsAre vs q) (hu : A.units + 64 < cLine) (h : Q (.bool true) s) : wpAny (model prog w) A (compareOp .Eq (.ref T1) (.ref T2)) Q E s := by
  have hsh : SeqAt.shaped (.tuple [.list (p.map PyData.int), .list (q.map PyData.int)]) = true := by
    simp [SeqAt.shaped, PyData.canLay0, PyData.canLayAll0, PyData.depth, PyData.depthAll, ke_canLayAll0, ke_depthAll]
  refine eq_dataH (da := .tuple [.list (p.map PyData.int), .list (q.map PyData.int)]) (db := .tuple [.list (p.map PyData.int), .list (q.map PyData.int)])
    (reads_tuple_at h1 rfl rfl (.cons (reads_of_ints hy iy) (.cons (reads_of_ints hn iq) .nil))) (reads_tuple_at h2 rfl rfl (.cons (reads_of_ints hD1 i1) (.cons (reads_of_ints hD2 i2) .nil))) hsh hsh hu ?_
  have e : PyData.eqv (.tuple [.list (p.map PyData.int), .list (q.map PyData.int)]) (.tuple [.list (p.map PyData.int), .list (q.map PyData.int)]) = true := by
    simp [PyData.eqv, PyData.eqvAll, ked_eqvAll]
  rw [e]; exact h
end
end Mine

/-! R1 -/
namespace Mine
set_option Elab.async false
set_option linter.unusedVariables false
local macro_rules | `(tactic| k_room) => `(tactic| ((try simp only [depth_under_make, depth_under_kw, depth_in1, depth_deeper, depth_caller, recursionLimit]); omega))
local macro_rules | `(tactic| walk_at "MINE enterC") => `(tactic| (refine wpAny_call ?_; k_dflt (refine' code_defCG ?k1 ?k2 ?k3 ?k4 ?k5 ?kA ?kF ?kK ?k6 ?k7 ?k8 ?k9 ?kB ?kD ?_ ?c2 ?c3 ?c4; (case kA => exact rfl); (case kF => exact rfl); (case kK => assumption); (case k1 => k_asm); (case k2 => k_asm); (case k3 => k_asm); (case k4 => k_asm); (case k5 => k_asm); (case k6 => k_is); (case k7 => k_is); (case k8 => k_room); (case k9 => exact BindsTo.of_eq rfl); (case kB => exact rfl); (case kD => decide +kernel); (case c2 => exact rfl); (case c3 => exact rfl); (case c4 => exact rfl); k_whole)))
local macro_rules | `(tactic| walk_at "MINE fill") => `(tactic| (w_on; (rename Frag.In _ _ => X0); revert X0; k_fill; intro X; w_top on))
local macro_rules | `(tactic| walk_at "MINE dp") => `(tactic| ((try simp only [depth_under_make, depth_under_kw, depth_in1, depth_deeper, depth_caller, Around.deeper_units]); omega))
local macro_rules | `(tactic| walk_at "call ref") => `(tactic| (k_here; (with_reducible show wpAny _ _ (call (Value.ref 21) [Value.str _ _, Value.int _ _]) _ _ _); k_dflt (refine' cram_use ?k1 ?k2 ?k3 ?k4 ?k5 ?k6 ?k7 ?k8 ?k9 ?_; (case k1 => k_asm); (case k2 => k_asm); (case k3 => k_asm); (case k4 => k_asm); (case k5 => k_asm); (case k6 => first | exact rfl | assumption); (case k7 => walk_at "MINE dp"); (case k8 => walk_at "MINE dp"); (case k9 => assumption); k_whole); intro t9 h9 tk9 F9 N9; (try dsimp only); (try k_sweep); (try k_fold)))
local macro_rules | `(tactic| walk_at "call ref") => `(tactic| (k_here; (with_reducible show wpAny _ _ (call (Value.ref 111) [Value.ref _, Value.ref _]) _ _ _); k_dflt (refine' least_use ?k1 ?k2 ?k3 ?k4 ?k5 ?k6 ?k7 ?k8 ?k9 ?k10 ?_; (case k1 => k_asm); (case k2 => k_asm); (case k3 => k_asm); (case k4 => k_asm); (case k5 => k_asm); (case k6 => first | exact rfl | assumption); (case k7 => walk_at "MINE dp"); (case k8 => walk_at "MINE dp"); (case k9 => k_mem); (case k10 => k_mem); k_whole); intro t9 h9 tk9 F9 N9; (try dsimp only); (try k_sweep); (try k_fold)))
local macro_rules | `(tactic| walk_at "call builtin:str.join") => `(tactic| (k_here; (show wpAny _ _ (call (Value.builtin "str.join") [Value.str _ _, Value.ref _]) _ _ _); k_dflt (refine' join2_K ?k1 ?k2 ?k3 ?k4 ?_; (case k1 => k_asm); (case k2 => k_mem); (case k3 => assumption); (case k4 => assumption); k_whole); intro t9 k9))
local macro_rules | `(tactic| walk_at "call type:range") => `(tactic| (k_here; (with_reducible show wpAny _ _ (call (Value.type "range") [Value.int _ _, Value.int _ _]) _ _ _); k_dflt (refine' range_K ?k1 ?k2 ?_; (case k1 => k_asm); (case k2 => k_asm); k_whole); intro r' t' u' v' h' tk' F' N' l1; (try k_lt l1); (try k_sweep)))
local macro_rules | `(tactic| walk_at "pyIter ref") => `(tactic| refine Stop.out ?_)
local macro_rules | `(tactic| walk_at "SPost") => `(tactic| (dsimp only [SPost]))
local macro_rules | `(tactic| walk_at "call builtin:list.append") => `(tactic| (k_here; (show wpAny _ _ (call (Value.builtin _) [Value.ref _, _]) _ _ _); k_dflt (refine' append_K ?k1 ?k2 ?k3 ?_ ?z; (case k1 => k_asm); (case k2 => k_asm); (case k3 => k_upd); (case z => size_fits); k_whole); intro h' F' N'; (try k_sweep)))
local macro_rules | `(tactic| size_fits) => `(tactic| assumption)
local macro_rules | `(tactic| walk_at "subscriptTail Name BinOp ref int") => `(tactic| (k_here; (with_reducible show wpAny _ _ (subscriptTail _ _ (Value.ref _) (Value.int _ _)) _ _ _); k_dflt (refine' item_at ?k1 ?k2 ?k3 ?k4 ?_ ?k5; (case k1 => exact News.isList (by k_asm) (by k_mem)); (case k4 => assumption); (case k2 => omega); (case k3 => omega); (case k5 => with_unfolding_all rfl); k_whole)))
def mS (yes no f : Addr) (u : Str → Option Value) : Str → Option Value := fun y => if y = Str.ofString "no" then some (.ref no) else if y = Str.ofString "yes" then some (.ref yes) else if y = Str.ofString "predicate" then some (.ref f) else u y
theorem mS_of {m : Str → Option Value} {yes no f : Addr} (h1 : m (Str.ofString "no") = some (.ref no)) (h2 : m (Str.ofString "yes") = some (.ref yes)) (h3 : m (Str.ofString "predicate") = some (.ref f)) : m = mS yes no f m := by
  funext y
  unfold mS
  split
  · rename_i e; rw [e, h1]
  · split
    · rename_i e; rw [e, h2]
    · split
      · rename_i e; rw [e, h3]
      · rfl
theorem filter_len (least : Int) (i : Nat) (hi : i ≤ 23) : (yesL least i).length ≤ sizeLine ∧ (noL least i).length ≤ sizeLine := by
  have h1 : (yesL least i).length ≤ i := Nat.le_trans (List.length_filter_le _ _) (by rw [rangeKs_length]; exact Nat.le_refl _)
  have h2 : (noL least i).length ≤ i := Nat.le_trans (List.length_filter_le _ _) (by rw [rangeKs_length]; exact Nat.le_refl _)
  rw [sizeLine_eq]; omega
local macro_rules | `(tactic| walk_at "call type:list") => `(tactic| (k_here; (with_reducible show wpAny _ _ (call (Value.type "list") [Value.ref _]) _ _ _); k_dflt (refine' kll_range ?k0 ?k1 ?k2 ?k3 ?k4 ?k5 ?k6 ?_; (case k0 => exact rfl); (case k1 => k_asm); (case k2 => k_asm); (case k3 => exact News.get (by k_asm) (by k_mem)); (case k4 => exact small_one (by omega) (by omega) (by omega) (by omega)); (case k5 => exact rangeSize_nat _ _); (case k6 => omega); k_whole); intro D' vs' c' h' tk' F' N' l1 hI'; (try k_lt l1); (try k_sweep)))
local macro_rules | `(tactic| walk_at "compareOp Eq ref ref") => `(tactic| (k_here; (with_reducible show wpAny _ _ (compareOp CmpOp.Eq (Value.ref _) (Value.ref _)) _ _ _); k_dflt (refine' eq_pair ?k1 ?k2 ?k3 ?k4 ?k5 ?k6 ?k7 ?k8 ?k9 ?k10 ?k11 ?_; (case k1 => exact News.get (by k_asm) (by k_mem)); (case k2 => exact News.get (by k_asm) (by k_mem)); (case k3 => exact News.isList (by k_asm) (by k_mem)); (case k4 => exact News.isList (by k_asm) (by k_mem)); (case k5 => exact News.isList (by k_asm) (by k_mem)); (case k6 => exact News.isList (by k_asm) (by k_mem)); (case k7 => assumption); (case k8 => assumption); (case k9 => assumption); (case k10 => assumption); (case k11 => k_units); k_whole)))
local macro_rules | `(tactic| k_units) => `(tactic| ((try simp only [Around.in1_units, Around.deeper_units, cLine_is]); omega))
local macro_rules | `(tactic| walk_at "exec For Name Name cons nil") => `(tactic| refine Stop.out ?_)
abbrev LQ : Str := Str.ofString "_law_right" ++ Str.ofString ".<locals>." ++ Str.ofString "<lambda>"
/-- the table of _law_right's own code: not met yet, or met -/
def TabIn (ps : Array Value) (led : List (Addr × Obj)) : Prop :=
  (ps = #[] ∧ led = []) ∨ ∃ (c' : Addr) (oc : Obj) (vs : Array Value) (t : Tok), ps = #[rawInt 84, rawInt 40, .ref c'] ∧ led = [(c', oc)] ∧ oc.data = .fields vs ∧ vs[1]? = some (.str LQ t)
theorem keep_but {h₀ H g H' : Heap} {L L' P : Addr} {m' : Str → Option Value} {news news' : List (Addr × Obj)} (G : GSub H g (news.map (·.1))) (N : News h₀ L H news) (F' : Fr g L' H' m') (N' : News g L' H' news') (hs : ∀ p ∈ news, p.1 = P ∨ p ∈ news') :
    ∀ b o, b ≠ P → H.get? b = some o → H'.get? b = some o := fun b o hb e => by
  by_cases hm : b ∈ news.map (·.1)
  · obtain ⟨p, hp, rfl⟩ := List.mem_map.mp hm
    have h1 := (N p hp).1
    rw [e] at h1
    cases h1
    rcases hs p hp with q | q
    · exact absurd q hb
    · exact (N' p q).1
  · exact F'.keep b o (G b o e hm)
theorem tab_in {h₀ h H : Heap} {L c' : Addr} {oc : Obj} {vs : Array Value} {t : Tok} {news led : List (Addr × Obj)} (N : News h₀ L h news) (h1 : (113, tabObj #[rawInt 84, rawInt 40, .ref c']) ∈ news) (h2 : (c', oc) ∈ news) (h3 : oc.data = .fields vs) (h4 : vs[1]? = some (.str LQ t)) (h5 : (c', oc) ∈ led ∨ H.get? c' = none) :
    ∃ ps led', News h₀ L h ((113, tabObj ps) :: led') ∧ TabIn ps led' ∧ ∀ p ∈ led', p ∈ led ∨ H.get? p.1 = none :=
  ⟨_, [(c', oc)], fun p hp => by rcases List.mem_cons.mp hp with rfl | hp; exact N _ h1; rw [List.mem_singleton.mp hp]; exact N _ h2, .inr ⟨c', oc, vs, t, rfl, rfl, h3, h4⟩, fun p hp => by rw [List.mem_singleton.mp hp]; exact h5⟩
theorem fresh_of {H g H' : Heap} {L' c : Addr} {o : Obj} {names : List Addr} {news' : List (Addr × Obj)} (G : GSub H g names) (N' : News g L' H' news') (hm : (c, o) ∈ news') (hne : c ∉ names) : H.get? c = none := by
  cases e : H.get? c with
  | none => rfl
  | some o' =>
    have := (N' _ hm).2.2
    rw [G c o' e hne] at this
    cases this
set_option maxRecDepth 100000 in
set_option maxHeartbeats 8000000 in
theorem right_ok (w : World) (loose : List Str) (mean : ExcName → Option Value) (mg mb : Str → Option Value) (lf lc ls lm lr : Addr) (a0 a1 b0 b1 : Int) (ta0 ta1 tb0 tb1 : Tok) (k1 k2 k3 k4 k5 : Nat) (r0 r1 : Str) (tr0 tr1 : Tok) (cr : List Value) (lst : Str) (hcr : ∀ i, i < 23 → ∃ t, cr[i]? = some (.str (cramF lst (-1 + (i : Int))) t))
   (hlaw : ∀ n : Int, -1 ≤ n → n < 22 → (cramF (joinF r0 r1) n = cramF lst n ↔ n < leastF (flatI (plL a0 a1 b0 b1) plF 2)))
   (ps : Array Value) (led : List (Addr × Obj)) (hT : TabIn ps led)
   (dp un gd cn cs a ccd cl outer A₀ base h₀ L m s Q) (B : Below A₀ base outer h₀) (F : Fr h₀ L s.heap m) (X : (hd.heap_39 w.params).In h₀) (T : Top topProg loose mean mg mb h₀) (hk : cs.kind = .function)
   (h113 : @Ne Nat lf 113 ∧ @Ne Nat lc 113 ∧ @Ne Nat ls 113 ∧ @Ne Nat lm 113 ∧ @Ne Nat lr 113) (hr0 : r0.length = 10) (hr1 : r1.length = 10)
   (N : News h₀ L s.heap ([(lf, W.listOf #[.int a0 ta0, .int a1 ta1] k1), (lc, W.listOf cr.toArray k2), (ls, W.listOf #[.ref lm, .ref lr] k3), (lm, W.listOf #[.int b0 tb0, .int b1 tb1] k4), (lr, W.listOf #[.str r0 tr0, .str r1 tr1] k5), (113, tabObj ps)] ++ led))
   (hb0 : 0 ≤ leastF (flatI (plL a0 a1 b0 b1) plF 2)) (hb1 : leastF (flatI (plL a0 a1 b0 b1) plF 2) ≤ 22)
   (hdp : dp + 30 < 1000) (hun : un + 400 < 9900)
   (hret : ∀ h' tk', Fr h₀ L h' m → (∀ b o, b ≠ 113 → s.heap.get? b = some o → h'.get? b = some o) → (∃ ps' led', News h₀ L h' ((113, tabObj ps') :: led') ∧ TabIn ps' led' ∧ ∀ p ∈ led', p ∈ led ∨ s.heap.get? p.1 = none) → Q (.bool true) { s with heap := h', toks := tk' }) :
   wpAny (model PySem.Challenge.rw_mq0191_01.row.prog w) (ktrTop dp un gd cn cs L a ccd cl outer) (call (.ref 118) [.ref lf, .ref lc, .ref ls]) Q (fun _ _ => False) s := by
  walk_at "MINE fill"
  rcases hT with ⟨rfl, rfl⟩ | ⟨c0, oc0, vs0, t0, rfl, rfl, hoc0, hvs0⟩
  all_goals simp only [List.cons_append, List.nil_append] at N
  all_goals walk_at "MINE enterC"
  all_goals (
    intro g' L' h' tk' cells' FG' F' N' Y' B' X' T' l1 GS'
    k_lt l1
    k_cells Y'
    simp only [List.cons_append, List.nil_append] at N'
    refine wpAny_noRaise ?_
    (try dsimp only)
    have h20 := joinF_len hr0 hr1
    have CD := code_hd X'
    k_steps
    refine unstop (for_start ?_)
    k_steps
    rename Fr _ _ _ _ => F2
    rename News _ _ _ _ => N2
    refine unstop ?_
    refine split_loop (least := leastF (flatI (plL a0 a1 b0 b1) plF 2)) (fun m₁ => ∃ u, m₁ = mS _ _ _ u) rfl F2 N2 (News.get N2 (by k_mem)) ⟨_, mS_of rfl rfl rfl⟩ ?turn ?done
    (case turn =>
      intro I i ti m₁ ys ns ky kn h3 tk3 o3 hI hi ho hm hys hns F3 N3
      obtain ⟨u, rfl⟩ := hm
      k_lt hI
      obtain ⟨tcr, hcri⟩ := hcr i hi
      have hl := hlaw (-1 + (i : Int)) (by omega) (by omega)
      have hz1 : ys.toArray.size ≤ sizeLine := by rw [List.size_toArray, hys.length]; exact (filter_len _ i (by omega)).1
      have hz2 : ns.toArray.size ≤ sizeLine := by rw [List.size_toArray, hns.length]; exact (filter_len _ i (by omega)).2
      clear F2 N2
      k_steps
      all_goals (rename Fr _ _ _ _ => F7; rename News _ _ _ _ => N7; rename ((_ == _) = _) => hc)
      · have hlt := hl.mp (eq_of_beq hc)
        refine SEnd.intro (ys := ys ++ [Value.int (-1 + (i : Int)) ti]) (ns := ns) (ky := ky + 1) (kn := kn) F7 (by simp only [List.push_toArray] at N7; exact N7) ⟨_, mS_of rfl rfl rfl⟩ (by rw [yesL_lt hlt]; exact ints_snoc hys) (by rw [noL_lt hlt]; exact hns)
      · have hge : ¬ (-1 + (i : Int) < leastF (flatI (plL a0 a1 b0 b1) plF 2)) := fun q => by rw [hl.mpr q] at hc; simp at hc
        refine SEnd.intro (ys := ys) (ns := ns ++ [Value.int (-1 + (i : Int)) ti]) (ky := ky) (kn := kn + 1) F7 (by simp only [List.push_toArray] at N7; exact N7) ⟨_, mS_of rfl rfl rfl⟩ (by rw [yesL_ge hge]; exact hys) (by rw [noL_ge hge]; exact ints_snoc hns))
    (case done =>
      intro m₁ ys ns ky kn h3 tk3 hm hys hns F3 N3
      obtain ⟨u, rfl⟩ := hm
      clear F2 N2
      rw [(yes_full hb0 hb1).1] at hys
      rw [(yes_full hb0 hb1).2] at hns
      k_steps
      rename Fr g' _ _ _ => F9
      rename Fr h₀ _ _ _ => kF
      rename News g' _ _ _ => N9
      rename News h₀ _ _ _ => kN
      refine hret _ _ kF (keep_but (P := 113) GS' N F9 N9 ?keepA) (tab_in kN (by k_mem) (by k_mem) (by assumption) (by assumption) ?newA)
      case newA =>
        first
          | exact .inl (.head _)
          | (refine .inr (fresh_of GS' N9 (by k_mem) ?_)
             intro hmem
             simp only [List.map_cons, List.map_nil, List.mem_cons, List.not_mem_nil, or_false] at hmem
             rcases hmem with hm9 | hm9 | hm9 | hm9 | hm9 | hm9
             all_goals exact absurd hm9 (by k_ne))
      case keepA =>
        repeat' (first | exact List.forall_mem_nil _ | refine List.forall_mem_cons.mpr ⟨?_, ?_⟩)
        all_goals first | exact Or.inl rfl | exact Or.inr (by k_mem)))
end Mine

/-! T8 -/
set_option Elab.async false
set_option maxRecDepth 100000
set_option linter.unusedVariables false
namespace Mine
section
variable {prog : Program} {w : World} {A : Around} {s : Shared} {env : Env} {g : Heap} {x : Str} {px : Pos} {body orelse : List Stmt} {Q : Flow → Shared → Prop}
theorem for_lst {l : Addr} {vs : List Value} {ns : List Int} {kl : Nat} {m : Str → Option Value} {news : List (Addr × Obj)}
    (hh : A.handled = none) (F : Fr g env.locals s.heap m) (N : News g env.locals s.heap ((l, W.listOf vs.toArray kl) :: news)) (hi : IntsAre vs ns) (hln : ∀ p ∈ news, p.1 ≠ l)
    (loop : ∀ I, (∀ p ∈ ((l, W.listOf vs.toArray kl) :: news), p.1 < I) → ∃ J : Nat → (Str → Option Value) → List (Addr × Obj) → Prop, J 0 m news ∧
      (∀ i n ti m₁ news₁ h tk o, ns[i]? = some n → o.cls = .type "list_iterator" → J i m₁ news₁ → Fr g env.locals h m₁ → News g env.locals h ((I, o) :: (l, W.listOf vs.toArray kl) :: news₁) → (∀ q ∈ news₁, q.1 ≠ I ∧ q.1 ≠ l) →
        wpAny (model prog w) A (assign (.Name x px) env (.int n ti)) (fun _ s₂ => wpAny (model prog w) A (execs body env) (TPost g env.locals [(I, o), (l, W.listOf vs.toArray kl)] (J (i + 1)) { s with heap := h, toks := tk } Q) (fun _ _ => False) s₂) (fun _ _ => False) { s with heap := h, toks := tk }) ∧
      (∀ m₁ news₁ h tk, J ns.length m₁ news₁ → Fr g env.locals h m₁ → News g env.locals h ((l, W.listOf vs.toArray kl) :: news₁) →
        wpAny (model prog w) A (execs orelse env) Q (fun _ _ => False) { s with heap := h, toks := tk })) :
    wpAny (model prog w) A (pyIter (.ref l)) (fun it s₂ => codeAny (model prog w) A (.forLoop (.Name x px) it body orelse env) (fun r s' => match r with | .ok f => Q f s' | .error _ => False) s₂) (fun _ _ => False) s := by
  have hl0 := N _ (.head _)
  have hls : s.heap.IsList l vs.toArray := ⟨_, hl0.1, rfl, _, rfl⟩
  refine wpAny_pyIter_list hls ?_
  have hlt : ∀ p ∈ ((l, W.listOf vs.toArray kl) :: news), p.1 < s.heap.objs.size := fun p hp => Heap.lt_size (N p hp).1
  have hlI : l ≠ s.heap.objs.size := Nat.ne_of_lt (hlt _ (.head _))
  obtain ⟨J, j0, turn, done⟩ := loop s.heap.objs.size hlt
  have hlen := hi.length
  have key : ∀ k i h tk m₁ news₁ o, i + k = ns.length → o.cls = .type "list_iterator" → o.data = .fields #[.ref l, .int i 0] → J i m₁ news₁ → (∀ q ∈ news₁, q.1 ≠ s.heap.objs.size ∧ q.1 ≠ l) → Fr g env.locals h m₁ → News g env.locals h ((s.heap.objs.size, o) :: (l, W.listOf vs.toArray kl) :: news₁) →
      codeAny (model prog w) A (.forLoop (.Name x px) (.ref s.heap.objs.size) body orelse env) (fun r s' => match r with | .ok f => Q f s' | .error _ => False) { s with heap := h, toks := tk } := by
    intro k
    induction k with
    | zero =>
      intro i h tk m₁ news₁ o hi' hc hd hj hoff F₁ N₁
      have hi2 : i = ns.length := by omega
      refine for_turn1 ?_
      have hI := N₁ _ (.head _)
      refine wpAny_pyNext_list_end hh (l := l) (i := i) (items := vs.toArray) ⟨o, hI.1, hc, hd⟩ ⟨_, (N₁ _ (.tail _ (.head _))).1, rfl, _, rfl⟩ (by simp [hi2, hlen]) fun h' he => ?_
      dsimp only
      refine wpAny_mono (done m₁ news₁ h' tk (hi2 ▸ hj) ⟨F₁.ns.at' fun x e => he _ _ (Ne.symm hI.2.1) e, fun b x e => he _ _ (fun q => ?_) (F₁.keep b x e), F₁.above⟩ fun p hp => ⟨he _ _ ?_ (N₁ p (.tail _ hp)).1, (N₁ p (.tail _ hp)).2⟩) (fun _ _ e => e) fun _ _ e => e
      · have := hI.2.2
        rw [← q] at this
        rw [this] at e
        cases e
      · rcases List.mem_cons.mp hp with rfl | hp
        · exact hlI
        · exact (hoff p hp).1
    | succ k ih =>
      intro i h tk m₁ news₁ o hi' hc hd hj hoff F₁ N₁
      have hlt' : i < ns.length := by omega
      obtain ⟨ti, hti⟩ := hi.get i ns[i] (by simp [hlt'])
      have hI := N₁ _ (.head _)
      refine for_turn1 ?_
      refine wpAny_pyNext_list_item (l := l) (i := i) (items := vs.toArray) (x := .int ns[i] ti) ⟨o, hI.1, hc, hd⟩ ⟨_, (N₁ _ (.tail _ (.head _))).1, rfl, _, rfl⟩ (by simpa using hti) fun h' hit hs => ?_
      dsimp only
      refine letGo_listiter hit ?_
      obtain ⟨o', ho', hc', hd'⟩ := hit
      obtain ⟨F₂, N₂⟩ := upd_iter F₁ N₁ (fun q hq => by rcases List.mem_cons.mp hq with rfl | hq; exact hlI; exact (hoff q hq).1) ho' fun b x hb e => hs.extBut b x hb e
      refine wpAny_mono (turn i ns[i] ti m₁ news₁ h' tk o' (by simp [hlt']) hc' hj F₂ N₂ hoff) (fun _ s₂ h₂ => wpAny_mono h₂ (fun f s₃ p => ?_) fun _ _ e => e) fun _ _ e => e
      have fin : TEnd g env.locals [(s.heap.objs.size, o'), (l, W.listOf vs.toArray kl)] (J (i + 1)) { s with heap := h', toks := tk } s₃ → codeAny (model prog w) A (.forLoop (.Name x px) (.ref s.heap.objs.size) body orelse env) (fun r s' => match r with | .ok f => Q f s' | .error _ => False) s₃ := by
        rintro ⟨h₃, tk₃, m₃, news₃, rfl, F₃, N₃, off₃, j₃⟩
        exact ih (i + 1) h₃ tk₃ m₃ news₃ o' (by omega) hc' hd' j₃ (fun q hq => ⟨off₃ _ (.head _) q hq, off₃ _ (.tail _ (.head _)) q hq⟩) F₃ N₃
      cases f with
      | ret v => exact p
      | brk => exact p
      | next => exact fin p
      | cont => exact fin p
  exact key ns.length 0 _ s.toks m news { cls := .type "list_iterator", data := .fields #[.ref l, .int 0 0] } (by omega) rfl rfl j0 (fun q hq => ⟨Nat.ne_of_lt (hlt q (.tail _ hq)), hln q hq⟩) (F.push _) (News.push F N _)
end
theorem item_lastV {prog : Program} {w : World} {A : Around} {E : Value → Shared → Prop} {s : Shared} {value slice : PySem.Expr} {D : Addr} {pre : List Value} {v : Value} {u : Tok} {Q : Value → Shared → Prop} (hl : s.heap.IsList D (pre ++ [v]).toArray) (h : Q v s)
    (hs : subscripted slice false (.ref D) (.int (-1) u) = operate [.ref D, .int (-1) u] (getItem (.ref D) (.int (-1) u)) := by with_unfolding_all rfl) :
    wpAny (model prog w) A (subscriptTail value slice (.ref D) (.int (-1) u)) Q E s := by
  refine tail_any hl.typeIs slot_list_getitem.lookup (wpAny_getItem_list_neg hl (by decide) (by rw [List.size_toArray, List.length_append, List.length_singleton]; omega) (by decide) (x := v) ?_ h) hs
  have e : (-1 + ((pre ++ [v]).toArray.size : Int)).toNat = pre.length := by rw [List.size_toArray, List.length_append, List.length_singleton]; omega
  rw [e]
  simp
end Mine

/-! S0 -/
namespace Mine
set_option Elab.async false
set_option linter.unusedVariables false
section
variable {w : World} {loose : List Str} {mean : ExcName → Option Value} {mg mb : Str → Option Value} {dp un : Nat} {gd : Option (List Code)} {cn : Str} {cs : Scope} {a : Addr} {ccd : Value} {cl : List (Str × Addr)} {outer : List Env} {A₀ : Around} {base h₀ : Heap} {L : Addr} {m : Str → Option Value} {s : Shared} {Q E : Value → Shared → Prop} {news : List (Addr × Obj)}
theorem filemode_use {n : Int} {t : Tok} (B : Below A₀ base outer h₀) (F : Fr h₀ L s.heap m) (X : (hd.heap_39 w.params).In h₀) (T : Top topProg loose mean mg mb h₀) (N : News h₀ L s.heap news) (hk : cs.kind = .function)
    (hdp : dp + 20 < 1000) (hun : un + 100 < 9900) (hret : ∀ t h' tk', Fr h₀ L h' m → News h₀ L h' news → Q (.str (fm n) t) { s with heap := h', toks := tk' }) :
    wpAny (model PySem.Challenge.rw_mq0191_01.row.prog w) (ktrTop dp un gd cn cs L a ccd cl outer) (call (.ref 82) [.int n t]) Q E s :=
  wpAny_noRaise (filemode_ok w loose mean mg mb n t dp un gd cn cs a ccd cl outer A₀ base h₀ L m s Q B F X T hk hdp hun fun t' h' tk' F' hk' => hret t' h' tk' F' (N.grown hk'))
end
structure Rec where
  ls : Addr
  lm : Addr
  lr : Addr
  b0 : Int
  b1 : Int
  t0 : Tok
  t1 : Tok
  u0 : Tok
  u1 : Tok
  k1 : Nat
  k2 : Nat
  k3 : Nat
noncomputable def Rec.objs (r : Rec) : List (Addr × Obj) := [(r.ls, W.listOf #[.ref r.lm, .ref r.lr] r.k1), (r.lm, W.listOf #[.int r.b0 r.t0, .int r.b1 r.t1] r.k2), (r.lr, W.listOf #[.str (fm r.b0) r.u0, .str (fm r.b1) r.u1] r.k3)]
def Rec.Ok (r : Rec) : Prop := (@Ne Nat r.ls 113 ∧ @Ne Nat r.lm 113 ∧ @Ne Nat r.lr 113) ∧ (0 ≤ r.b0 ∧ r.b0 < 2 ^ 32) ∧ (0 ≤ r.b1 ∧ r.b1 < 2 ^ 32)
theorem news_sub {h₀ h : Heap} {L : Addr} {all l : List (Addr × Obj)} (N : News h₀ L h all) (x : SubL l all) : News h₀ L h l := fun p hp => N p (x.mem p hp)
def mT (S : Addr) (u : Str → Option Value) : Str → Option Value := fun y => if y = Str.ofString "states" then some (.ref S) else u y
theorem mT_of {m : Str → Option Value} {S : Addr} (h1 : m (Str.ofString "states") = some (.ref S)) : m = mT S m := by
  funext y
  unfold mT
  split
  · rename_i e; rw [e, h1]
  · rfl
/-- the states so far: the last one, those ahead of it -/
structure StJ (S : Addr) (o113 : Obj) (P : Addr × Obj) (a0 a1 : Int) (i : Nat) (news : List (Addr × Obj)) (rs : List Rec) (r : Rec) (kS : Nat) : Prop where
  len : rs.length = i
  led : news = (S, W.listOf (rs.map (fun q => Value.ref q.ls) ++ [Value.ref r.ls]).toArray kS) :: (r.ls, W.listOf #[.ref r.lm, .ref r.lr] r.k1) :: (r.lm, W.listOf #[.int r.b0 r.t0, .int r.b1 r.t1] r.k2) :: (r.lr, W.listOf #[.str (fm r.b0) r.u0, .str (fm r.b1) r.u1] r.k3) :: (113, o113) :: rs.flatMap Rec.objs
  ok : ∀ q ∈ rs ++ [r], q.Ok
  off : ∀ p ∈ rs.flatMap Rec.objs, p.1 ≠ S
  offr : @Ne Nat r.ls S ∧ @Ne Nat r.lm S ∧ @Ne Nat r.lr S ∧ @Ne Nat S 113
  head : ∀ q, (rs ++ [r]).head? = some q → (q.lm, W.listOf #[.int q.b0 q.t0, .int q.b1 q.t1] q.k2) = P ∧ q.b0 = a0 ∧ q.b1 = a1
end Mine

/-! S2 -/
namespace Mine
set_option Elab.async false
set_option linter.unusedVariables false
set_option maxRecDepth 100000
def QEnd (g : Heap) (L I : Addr) (o : Obj) (lt : Addr) (lobj : Obj) (S : Addr) (o113 : Obj) (rs : List Rec) (r : Rec) (rest : List (Addr × Obj)) (s s₃ : Shared) : Prop :=
  ∃ (h' : Heap) (tk : Nat) (m' : Str → Option Value) (r' : Rec) (kS' : Nat), s₃ = { s with heap := h', toks := tk } ∧ Fr g L h' m' ∧ m' (Str.ofString "states") = some (.ref S) ∧
    News g L h' ((I, o) :: (lt, lobj) :: (S, W.listOf (rs.map (fun q => Value.ref q.ls) ++ [Value.ref r.ls] ++ [Value.ref r'.ls]).toArray kS') :: (r'.ls, W.listOf #[.ref r'.lm, .ref r'.lr] r'.k1) :: (r'.lm, W.listOf #[.int r'.b0 r'.t0, .int r'.b1 r'.t1] r'.k2) :: (r'.lr, W.listOf #[.str (fm r'.b0) r'.u0, .str (fm r'.b1) r'.u1] r'.k3) :: (113, o113) ::
      (r.ls, W.listOf #[.ref r.lm, .ref r.lr] r.k1) :: (r.lm, W.listOf #[.int r.b0 r.t0, .int r.b1 r.t1] r.k2) :: (r.lr, W.listOf #[.str (fm r.b0) r.u0, .str (fm r.b1) r.u1] r.k3) :: rest) ∧
    r'.Ok ∧ (@Ne Nat r'.ls I ∧ @Ne Nat r'.ls lt ∧ @Ne Nat r'.ls S) ∧ (@Ne Nat r'.lm I ∧ @Ne Nat r'.lm lt ∧ @Ne Nat r'.lm S) ∧ (@Ne Nat r'.lr I ∧ @Ne Nat r'.lr lt ∧ @Ne Nat r'.lr S)
def QPost (g : Heap) (L I : Addr) (o : Obj) (lt : Addr) (lobj : Obj) (S : Addr) (o113 : Obj) (rs : List Rec) (r : Rec) (rest : List (Addr × Obj)) (s : Shared) (f : Flow) (s₃ : Shared) : Prop :=
  match f with
  | .ret _ => False
  | .brk => False
  | _ => QEnd g L I o lt lobj S o113 rs r rest s s₃
theorem objs_mem {q : Rec} {rs : List Rec} (h : q ∈ rs) : ∀ p ∈ q.objs, p ∈ rs.flatMap Rec.objs := fun p hp => List.mem_flatMap.mpr ⟨q, h, hp⟩
section
variable {prog : Program} {w : World} {A : Around} {s : Shared} {env : Env} {g : Heap} {x : Str} {px : Pos} {body : List Stmt} {Q : Flow → Shared → Prop}
theorem states_loop {S ls0 D0 lf lt : Addr} {a0 a1 : Int} {ta0 ta1 u0 u1 : Tok} {k1 kl : Nat} {vs : List Value} {ns : List Int} {o113 : Obj} {m : Str → Option Value}
    (hh : A.handled = none) (F : Fr g env.locals s.heap m) (N : News g env.locals s.heap [(S, W.listOf #[.ref ls0] 0), (ls0, W.listOf #[.ref lf, .ref D0] 0), (D0, LCg.lst [.str (fm a0) u0, .str (fm a1) u1]), (lf, W.listOf #[.int a0 ta0, .int a1 ta1] k1), (lt, W.listOf vs.toArray kl), (113, o113)])
    (hI : IntsAre vs ns) (hA0 : 0 ≤ a0 ∧ a0 < 2 ^ 32) (hA1 : 0 ≤ a1 ∧ a1 < 2 ^ 32)
    (hlt : @Ne Nat S lt ∧ @Ne Nat ls0 lt ∧ @Ne Nat D0 lt ∧ @Ne Nat lf lt ∧ @Ne Nat 113 lt) (hS : @Ne Nat ls0 S ∧ @Ne Nat lf S ∧ @Ne Nat D0 S ∧ @Ne Nat S 113) (h113 : @Ne Nat ls0 113 ∧ @Ne Nat lf 113 ∧ @Ne Nat D0 113)
    (hm : m (Str.ofString "states") = some (.ref S))
    (turn : ∀ (I : Addr) (i : Nat) (n : Int) (ti : Tok) (u : Str → Option Value) (rs : List Rec) (r : Rec) (kS : Nat) (h : Heap) (tk : Nat) (o : Obj) (rest : List (Addr × Obj)), rest = rs.flatMap Rec.objs → ns[i]? = some n → o.cls = .type "list_iterator" → rs.length = i → r.Ok → OwnOff rest [S] → (@Ne Nat r.ls S ∧ @Ne Nat r.lm S ∧ @Ne Nat r.lr S ∧ @Ne Nat S 113) → (@Ne Nat S I ∧ @Ne Nat S lt) →
      Fr g env.locals h (mT S u) → News g env.locals h ((I, o) :: (lt, W.listOf vs.toArray kl) :: (S, W.listOf (rs.map (fun q => Value.ref q.ls) ++ [Value.ref r.ls]).toArray kS) :: (r.ls, W.listOf #[.ref r.lm, .ref r.lr] r.k1) :: (r.lm, W.listOf #[.int r.b0 r.t0, .int r.b1 r.t1] r.k2) :: (r.lr, W.listOf #[.str (fm r.b0) r.u0, .str (fm r.b1) r.u1] r.k3) :: (113, o113) :: rest) →
        wpAny (model prog w) A (assign (.Name x px) env (.int n ti)) (fun _ s₂ => wpAny (model prog w) A (execs body env) (QPost g env.locals I o lt (W.listOf vs.toArray kl) S o113 rs r rest { s with heap := h, toks := tk }) (fun _ _ => False) s₂) (fun _ _ => False) { s with heap := h, toks := tk })
    (done : ∀ (rs : List Rec) (r : Rec) (kS : Nat) (u : Str → Option Value) (h : Heap) (tk : Nat), StJ S o113 (lf, W.listOf #[.int a0 ta0, .int a1 ta1] k1) a0 a1 ns.length ((S, W.listOf (rs.map (fun q => Value.ref q.ls) ++ [Value.ref r.ls]).toArray kS) :: (r.ls, W.listOf #[.ref r.lm, .ref r.lr] r.k1) :: (r.lm, W.listOf #[.int r.b0 r.t0, .int r.b1 r.t1] r.k2) :: (r.lr, W.listOf #[.str (fm r.b0) r.u0, .str (fm r.b1) r.u1] r.k3) :: (113, o113) :: rs.flatMap Rec.objs) rs r kS → Fr g env.locals h (mT S u) →
      News g env.locals h ((lt, W.listOf vs.toArray kl) :: (S, W.listOf (rs.map (fun q => Value.ref q.ls) ++ [Value.ref r.ls]).toArray kS) :: (r.ls, W.listOf #[.ref r.lm, .ref r.lr] r.k1) :: (r.lm, W.listOf #[.int r.b0 r.t0, .int r.b1 r.t1] r.k2) :: (r.lr, W.listOf #[.str (fm r.b0) r.u0, .str (fm r.b1) r.u1] r.k3) :: (113, o113) :: rs.flatMap Rec.objs) → Q .next { s with heap := h, toks := tk }) :
    wpAny (model prog w) A (pyIter (.ref lt)) (fun it s₂ => codeAny (model prog w) A (.forLoop (.Name x px) it body [] env) (fun r s' => match r with | .ok f => Q f s' | .error _ => False) s₂) (fun _ _ => False) s := by
  have N2 : News g env.locals s.heap ((lt, W.listOf vs.toArray kl) :: (S, W.listOf (([] : List Rec).map (fun q => Value.ref q.ls) ++ [Value.ref ls0]).toArray 0) :: (ls0, W.listOf #[.ref lf, .ref D0] 0) :: (lf, W.listOf #[.int a0 ta0, .int a1 ta1] k1) :: (D0, W.listOf #[.str (fm a0) u0, .str (fm a1) u1] 2) :: (113, o113) :: ([] : List Rec).flatMap Rec.objs) :=
    news_sub N (by k_subL)
  refine for_lst hh F N2 hI ?_ ?_
  · intro p hp
    simp only [List.flatMap_nil, List.mem_cons, List.not_mem_nil, or_false] at hp
    rcases hp with rfl | rfl | rfl | rfl | rfl
    · exact hlt.1
    · exact hlt.2.1
    · exact hlt.2.2.2.1
    · exact hlt.2.2.1
    · exact hlt.2.2.2.2
  intro I hlI
  refine ⟨fun i m₁ news₁ => m₁ (Str.ofString "states") = some (.ref S) ∧ ∃ rs r kS, StJ S o113 (lf, W.listOf #[.int a0 ta0, .int a1 ta1] k1) a0 a1 i news₁ rs r kS, ⟨hm, [], ⟨ls0, lf, D0, a0, a1, ta0, ta1, u0, u1, 0, k1, 2⟩, 0, ⟨rfl, rfl, ?_, ?_, hS, ?_⟩⟩, ?_, ?_⟩
  · intro q hq
    rw [List.nil_append, List.mem_singleton] at hq
    subst hq
    exact ⟨h113, hA0, hA1⟩
  · intro p hp
    exact nomatch hp
  · intro q hq
    simp only [List.nil_append, List.head?_cons, Option.some.injEq] at hq
    subst hq
    exact ⟨rfl, rfl, rfl⟩
  · rintro i n ti m₁ news₁ h tk o hn ho ⟨hm1, rs, r, kS, J⟩ F1 N1 hoff
    have hled := J.led
    subst hled
    rw [mT_of hm1] at F1
    have hSo := hoff _ (.head _)
    refine wpAny_mono (turn I i n ti m₁ rs r kS h tk o (rs.flatMap Rec.objs) rfl hn ho J.len (J.ok r (by simp)) (fun p hp b hb => by rw [List.mem_singleton.mp hb]; exact J.off p hp) J.offr ⟨hSo.1, hSo.2⟩ F1 N1) (fun _ s₂ hs => wpAny_mono hs (fun f s₃ p => ?_) fun _ _ e => e) fun _ _ e => e
    have fin : QEnd g env.locals I o lt (W.listOf vs.toArray kl) S o113 rs r (rs.flatMap Rec.objs) { s with heap := h, toks := tk } s₃ → TEnd g env.locals [(I, o), (lt, W.listOf vs.toArray kl)] (fun m₁ news₁ => m₁ (Str.ofString "states") = some (.ref S) ∧ ∃ rs r kS, StJ S o113 (lf, W.listOf #[.int a0 ta0, .int a1 ta1] k1) a0 a1 (i + 1) news₁ rs r kS) { s with heap := h, toks := tk } s₃ := by
      rintro ⟨h', tk', m', r', kS', rfl, F', hm', N', hok', n1, n2, n3⟩
      refine TEnd.intro F' (news' := (S, W.listOf ((rs ++ [r]).map (fun q => Value.ref q.ls) ++ [Value.ref r'.ls]).toArray kS') :: (r'.ls, W.listOf #[.ref r'.lm, .ref r'.lr] r'.k1) :: (r'.lm, W.listOf #[.int r'.b0 r'.t0, .int r'.b1 r'.t1] r'.k2) :: (r'.lr, W.listOf #[.str (fm r'.b0) r'.u0, .str (fm r'.b1) r'.u1] r'.k3) :: (113, o113) :: (rs ++ [r]).flatMap Rec.objs) ?_ ?_ ⟨hm', rs ++ [r], r', kS', ⟨by simp [J.len], rfl, ?_, ?_, ⟨n1.2.2, n2.2.2, n3.2.2, J.offr.2.2.2⟩, ?_⟩⟩
      · intro p hp
        refine N' p ?_
        simp only [List.map_append, List.map_cons, List.map_nil, List.flatMap_append, List.flatMap_cons, List.flatMap_nil, List.append_nil, Rec.objs, List.cons_append, List.nil_append, List.mem_cons, List.mem_append, List.not_mem_nil, or_false] at hp ⊢
        rcases hp with h | h | h | h | h | h | h | h | h | h | h <;> simp [h]
      · intro p hp q hq
        have hq' : q.1 = S ∨ q.1 = r'.ls ∨ q.1 = r'.lm ∨ q.1 = r'.lr ∨ (∃ o', (q.1, o') ∈ ((S, W.listOf (rs.map (fun q => Value.ref q.ls) ++ [Value.ref r.ls]).toArray kS) :: (r.ls, W.listOf #[.ref r.lm, .ref r.lr] r.k1) :: (r.lm, W.listOf #[.int r.b0 r.t0, .int r.b1 r.t1] r.k2) :: (r.lr, W.listOf #[.str (fm r.b0) r.u0, .str (fm r.b1) r.u1] r.k3) :: (113, o113) :: rs.flatMap Rec.objs)) := by
          rcases List.mem_cons.mp hq with rfl | hq
          · exact .inl rfl
          rcases List.mem_cons.mp hq with rfl | hq
          · exact .inr (.inl rfl)
          rcases List.mem_cons.mp hq with rfl | hq
          · exact .inr (.inr (.inl rfl))
          rcases List.mem_cons.mp hq with rfl | hq
          · exact .inr (.inr (.inr (.inl rfl)))
          refine .inr (.inr (.inr (.inr ⟨q.2, ?_⟩)))
          rcases List.mem_cons.mp hq with rfl | hq
          · exact .tail _ (.tail _ (.tail _ (.tail _ (.head _))))
          rw [List.flatMap_append] at hq
          rcases List.mem_append.mp hq with hq | hq
          · exact .tail _ (.tail _ (.tail _ (.tail _ (.tail _ hq))))
          · simp only [List.flatMap_cons, List.flatMap_nil, List.append_nil, Rec.objs, List.mem_cons, List.not_mem_nil, or_false] at hq
            rcases hq with rfl | rfl | rfl
            · exact .tail _ (.head _)
            · exact .tail _ (.tail _ (.head _))
            · exact .tail _ (.tail _ (.tail _ (.head _)))
        rcases List.mem_cons.mp hp with rfl | hp
        · rcases hq' with e | e | e | e | ⟨o', e⟩
          · rw [e]; exact hSo.1
          · rw [e]; exact n1.1
          · rw [e]; exact n2.1
          · rw [e]; exact n3.1
          · exact (hoff _ e).1
        · rw [List.mem_singleton.mp hp]
          rcases hq' with e | e | e | e | ⟨o', e⟩
          · rw [e]; exact hSo.2
          · rw [e]; exact n1.2.1
          · rw [e]; exact n2.2.1
          · rw [e]; exact n3.2.1
          · exact (hoff _ e).2
      · intro q hq
        rcases List.mem_append.mp hq with hq | hq
        · exact J.ok q hq
        · rw [List.mem_singleton.mp hq]; exact hok'
      · intro p hp
        rw [List.flatMap_append] at hp
        rcases List.mem_append.mp hp with hp | hp
        · exact J.off p hp
        · simp only [List.flatMap_cons, List.flatMap_nil, List.append_nil, Rec.objs, List.mem_cons, List.not_mem_nil, or_false] at hp
          rcases hp with rfl | rfl | rfl
          · exact J.offr.1
          · exact J.offr.2.1
          · exact J.offr.2.2.1
      · intro q hq
        refine J.head q ?_
        cases rs with
        | nil => simpa using hq
        | cons a b => simpa using hq
    cases f with
    | ret v => exact p.elim
    | brk => exact p.elim
    | next => exact fin p
    | cont => exact fin p
  · rintro m₁ news₁ h tk ⟨hm1, rs, r, kS, J⟩ F1 N1
    have hled := J.led
    subst hled
    rw [mT_of hm1] at F1
    exact wpAny_execs_nil (done rs r kS m₁ h tk J F1 N1)
end
end Mine

/-! B0 -/
namespace Mine
set_option Elab.async false
theorem and_xor_sum : ∀ (n a b : Nat), a ≤ n → a + b = (a ^^^ b) + 2 * (a &&& b) := by
  intro n
  induction n with
  | zero =>
    intro a b h
    have : a = 0 := by omega
    subst this
    simp
  | succ n ih =>
    intro a b h
    by_cases h0 : a = 0
    · subst h0; simp
    have i := ih (a / 2) (b / 2) (by omega)
    have e1 : (a ^^^ b) / 2 = a / 2 ^^^ b / 2 := Nat.xor_div_two
    have e2 : (a &&& b) / 2 = a / 2 &&& b / 2 := Nat.and_div_two
    have m1 := Nat.xor_mod_two_eq_one (a := a) (b := b)
    have m2 := Nat.and_mod_two_eq_one (a := a) (b := b)
    generalize (a ^^^ b) = x at *
    generalize (a &&& b) = y at *
    rw [← e1, ← e2] at i
    omega
theorem bitAnd_nat (a b : Nat) : Builtin.bitAnd (a : Int) (b : Int) = ((a &&& b : Nat) : Int) := by
  unfold Builtin.bitAnd
  simp
theorem bitXor_nat (a b : Nat) : Builtin.bitXor (a : Int) (b : Int) = ((a ^^^ b : Nat) : Int) := by
  rw [PyProof.Rows.bitXor_and, bitAnd_nat]
  have := and_xor_sum a a b (Nat.le_refl _)
  omega
theorem xor_bound {b : Int} {k : Nat} (h : 0 ≤ b ∧ b < 2 ^ 32) (hk : k < 18) : 0 ≤ Builtin.bitXor b (2 ^ k) ∧ Builtin.bitXor b (2 ^ k) < 2 ^ 32 := by
  obtain ⟨n, rfl⟩ := Int.eq_ofNat_of_zero_le h.1
  have e : (2 : Int) ^ k = ((2 ^ k : Nat) : Int) := by simp
  rw [e, bitXor_nat]
  have h1 : n < 2 ^ 32 := by omega
  have h2 : 2 ^ k < 2 ^ 32 := Nat.pow_lt_pow_right (by decide) (by omega)
  have := Nat.xor_lt_two_pow h1 h2
  omega
theorem xor_boundF {b j : Int} (h : 0 ≤ b ∧ b < 2 ^ 32) (h0 : 0 ≤ j) (hk : j < 18) : 0 ≤ Builtin.bitXor b (2 ^ j.toNat) ∧ Builtin.bitXor b (2 ^ j.toNat) < 2 ^ 32 := xor_bound h (by omega)
end Mine

/-! S1 -/
namespace Mine
set_option Elab.async false
set_option linter.unusedVariables false
local macro_rules | `(tactic| k_room) => `(tactic| ((try simp only [depth_under_make, depth_under_kw, depth_in1, depth_deeper, depth_caller, recursionLimit]); omega))
local macro_rules | `(tactic| walk_at "MINE enter") => `(tactic| (refine wpAny_call ?_; k_dflt (refine' code_defG ?k1 ?k2 ?k3 ?k4 ?k5 ?kA ?kF ?kK ?k6 ?k7 ?k8 ?k9 ?kB ?_ ?c2 ?c3 ?c4 ?c5; (case kA => exact rfl); (case kF => exact rfl); (case kK => assumption); (case k1 => k_asm); (case k2 => k_asm); (case k3 => k_asm); (case k4 => k_asm); (case k5 => k_asm); (case k6 => k_is); (case k7 => k_is); (case k8 => k_room); (case k9 => exact BindsTo.of_eq rfl); (case c5 => decide); (case kB => exact locs rfl); (case c2 => exact rfl); (case c3 => exact rfl); (case c4 => exact rfl); k_whole)))
local macro_rules | `(tactic| walk_at "MINE fill") => `(tactic| (w_on; (rename Frag.In _ _ => X0); revert X0; k_fill; intro X; w_top on))
local macro_rules | `(tactic| walk_at "MINE dp") => `(tactic| ((try simp only [depth_under_make, depth_under_kw, depth_in1, depth_deeper, depth_caller, Around.deeper_units]); omega))
local macro_rules | `(tactic| walk_at "call ref") => `(tactic| (k_here; (with_reducible show wpAny _ _ (call (Value.ref 82) [Value.int _ _]) _ _ _); k_dflt (refine' filemode_use ?k1 ?k2 ?k3 ?k4 ?k5 ?k6 ?k7 ?k8 ?_; (case k1 => k_asm); (case k2 => k_asm); (case k3 => k_asm); (case k4 => k_asm); (case k5 => k_asm); (case k6 => first | exact rfl | assumption); (case k7 => walk_at "MINE dp"); (case k8 => walk_at "MINE dp"); k_whole); intro t9 h9 tk9 F9 N9; (try dsimp only); (try k_sweep); (try k_fold)))
local macro_rules | `(tactic| walk_at "pyIter ref") => `(tactic| refine Stop.out ?_)
local macro_rules | `(tactic| walk_at "QPost") => `(tactic| (dsimp only [QPost]))
local macro_rules | `(tactic| walk_at "subscriptTail Name UnaryOp ref int") => `(tactic| (k_here; (show wpAny _ _ (subscriptTail _ _ (Value.ref _) (Value.int (-1) _)) _ _ _); k_dflt (refine' item_lastV ?k1 ?_ ?k4; (case k1 => exact News.isList (by k_asm) (by k_mem)); (case k4 => with_unfolding_all rfl); k_whole)))
local macro_rules | `(tactic| walk_at "subscriptTail Name BinOp ref int") => `(tactic| (k_here; (with_reducible show wpAny _ _ (subscriptTail _ _ (Value.ref _) (Value.int (Int.fmod _ 2) _)) _ _ _); k_dflt (first
  | (refine' Mine.item_at (i := 0) ?k1 ?k2 ?k3 ?k4 ?_ ?k5; (case k2 => assumption); (case k1 => exact News.isList (by k_asm) (by k_mem)); (case k4 => exact rfl); (case k3 => decide); (case k5 => with_unfolding_all rfl); k_whole)
  | (refine' Mine.item_at (i := 1) ?k1 ?k2 ?k3 ?k4 ?_ ?k5; (case k2 => assumption); (case k1 => exact News.isList (by k_asm) (by k_mem)); (case k4 => exact rfl); (case k3 => decide); (case k5 => with_unfolding_all rfl); k_whole))))
local macro_rules | `(tactic| walk_at "subscriptTail") => `(tactic| (k_here; k_dflt (first
  | ((with_reducible show wpAny _ _ (subscriptTail _ _ (Value.ref _) (Value.int 1 _)) _ _ _); refine' Mine.item_at (i := 1) ?k1 ?k2 ?k3 ?k4 ?_ ?k5; (case k2 => exact rfl); (case k1 => exact News.isList (by k_asm) (by k_mem)); (case k4 => exact rfl); (case k3 => decide); (case k5 => with_unfolding_all rfl); k_whole)
  | ((with_reducible show wpAny _ _ (subscriptTail _ _ (Value.ref _) (Value.int 0 _)) _ _ _); refine' Mine.item_at (i := 0) ?k1 ?k2 ?k3 ?k4 ?_ ?k5; (case k2 => exact rfl); (case k1 => exact News.isList (by k_asm) (by k_mem)); (case k4 => exact rfl); (case k3 => decide); (case k5 => with_unfolding_all rfl); k_whole))))
local macro_rules | `(tactic| walk_at "exec For Name Name cons nil") => `(tactic| refine Stop.out ?_)
section
variable {prog : Program} {w : World} {A : Around} {E : Value → Shared → Prop} {s : Shared} {h₀ : Heap} {L D : Addr} {m : Str → Option Value} {news news' : List (Addr × Obj)} {its : Array Value} {n : Nat}
theorem set_at {k : Int} {i : Nat} {t : Tok} {v : Value} {q : List Value} {Q : Unit → Shared → Prop} (F : Fr h₀ L s.heap m) (N : News h₀ L s.heap news) (he : k = (i : Int)) (hi : i < 1000) (e : ki_setL its.toList i v = some q) (U : Upd D (W.listOf its n) (W.listOf q.toArray n) news news')
    (h : ∀ h', Fr h₀ L h' m → News h₀ L h' news' → Q () { s with heap := h' }) : wpAny (model prog w) A (setItem (.ref D) (.int k t) v) Q E s := by
  subst he
  exact ki_set F N (by omega) (by omega) (by simpa using e) U h
end
local macro_rules | `(tactic| walk_at "setItem ref int") => `(tactic| (k_here; (with_reducible show wpAny _ _ (setItem (Value.ref _) (Value.int (Int.fmod _ 2) _) _) _ _ _); k_dflt (first
  | (refine' set_at (i := 0) ?F ?N ?a ?b ?e ?U ?_; (case a => assumption); (case F => k_asm); (case N => k_asm); (case U => k_upd); (case b => decide); (case e => rfl))
  | (refine' set_at (i := 1) ?F ?N ?a ?b ?e ?U ?_; (case a => assumption); (case F => k_asm); (case N => k_asm); (case U => k_upd); (case b => decide); (case e => rfl))); intro h' F' N'; (try dsimp only [List.nil_append, List.cons_append] at N')))
local macro_rules | `(tactic| walk_at "call builtin:list.append") => `(tactic| (k_here; (show wpAny _ _ (call (Value.builtin _) [Value.ref _, _]) _ _ _); k_dflt (refine' append_K ?k1 ?k2 ?k3 ?_ ?z; (case k1 => k_asm); (case k2 => k_asm); (case k3 => k_upd); (case z => size_fits); k_whole); intro h' F' N'; (try k_sweep)))
local macro_rules | `(tactic| size_fits) => `(tactic| assumption)
theorem QEnd.mk {g : Heap} {L I : Addr} {o : Obj} {lt : Addr} {lobj : Obj} {S : Addr} {o113 : Obj} {rs : List Rec} {r : Rec} {rest : List (Addr × Obj)} {s : Shared} {h' : Heap} {tk : Nat} {m' : Str → Option Value} {l' Dt D1 D2 : Addr} {tup : Obj} {x0 x1 : Int} {u0 u1 t0 t1 : Tok} {c1 c2 kS : Nat}
    (F : Fr g L h' m') (hm : m' (Str.ofString "states") = some (.ref S))
    (N : News g L h' ((l', W.listOf #[.ref D2, .ref D1] 0) :: (Dt, tup) :: (D1, W.listOf #[.str (fm x0) u0, .str (fm x1) u1] c1) :: (D2, W.listOf #[.int x0 t0, .int x1 t1] c2) :: (I, o) :: (lt, lobj) :: (S, W.listOf ((List.map (fun q => Value.ref q.ls) rs ++ [Value.ref r.ls]).toArray.push (.ref l')) kS) :: (r.ls, W.listOf #[.ref r.lm, .ref r.lr] r.k1) :: (r.lm, W.listOf #[.int r.b0 r.t0, .int r.b1 r.t1] r.k2) :: (r.lr, W.listOf #[.str (fm r.b0) r.u0, .str (fm r.b1) r.u1] r.k3) :: (113, o113) :: rest))
    (l1 : Dt < l' ∧ D1 < l' ∧ D2 < l' ∧ I < l' ∧ lt < l' ∧ S < l' ∧ r.ls < l' ∧ r.lm < l' ∧ r.lr < l' ∧ 113 < l' ∧ AllLt l' rest)
    (l2 : D2 < D1 ∧ I < D1 ∧ lt < D1 ∧ S < D1 ∧ r.ls < D1 ∧ r.lm < D1 ∧ r.lr < D1 ∧ 113 < D1 ∧ AllLt D1 rest)
    (l3 : I < D2 ∧ lt < D2 ∧ S < D2 ∧ r.ls < D2 ∧ r.lm < D2 ∧ r.lr < D2 ∧ 113 < D2 ∧ AllLt D2 rest)
    (hb0 : 0 ≤ x0 ∧ x0 < 2 ^ 32) (hb1 : 0 ≤ x1 ∧ x1 < 2 ^ 32) :
    QEnd g L I o lt lobj S o113 rs r rest s { s with heap := h', toks := tk } := by
  have gt : ∀ {a b : Nat}, @LT.lt Nat _ a b → @Ne Nat b a := fun h => (Nat.ne_of_lt h).symm
  refine ⟨h', tk, m', ⟨l', D2, D1, x0, x1, t0, t1, u0, u1, 0, c2, c1⟩, kS, rfl, F, hm, ?_, ⟨⟨gt l1.2.2.2.2.2.2.2.2.2.1, gt l3.2.2.2.2.2.2.1, gt l2.2.2.2.2.2.2.2.1⟩, hb0, hb1⟩, ⟨gt l1.2.2.2.1, gt l1.2.2.2.2.1, gt l1.2.2.2.2.2.1⟩, ⟨gt l3.1, gt l3.2.1, gt l3.2.2.1⟩, ⟨gt l2.2.1, gt l2.2.2.1, gt l2.2.2.2.1⟩⟩
  have e : ((List.map (fun q => Value.ref q.ls) rs ++ [Value.ref r.ls]).toArray.push (.ref l')) = (List.map (fun q => Value.ref q.ls) rs ++ [Value.ref r.ls] ++ [Value.ref l']).toArray := by simp
  rw [e] at N
  intro p hp
  refine N p ?_
  simp only [List.mem_cons] at hp ⊢
  rcases hp with h | h | h | h | h | h | h | h | h | h | h <;> simp only [h, true_or, or_true]
theorem keep_all {h₀ H g H' : Heap} {L L' : Addr} {m' : Str → Option Value} {news news' : List (Addr × Obj)} (G : GSub H g (news.map (·.1))) (N : News h₀ L H news) (F' : Fr g L' H' m') (N' : News g L' H' news') (hs : ∀ p ∈ news, p ∈ news') :
    ∀ b o, H.get? b = some o → H'.get? b = some o := by
  intro b o e
  by_cases hb : b ∈ news.map (·.1)
  · obtain ⟨p, hp, rfl⟩ := List.mem_map.mp hb
    have e2 := (N p hp).1
    rw [e] at e2
    rw [Option.some.inj e2]
    exact (N' p (hs p hp)).1
  · exact F'.keep b o (G b o e hb)
theorem head_in {S : Addr} {o113 : Obj} {P : Addr × Obj} {a0 a1 : Int} {i : Nat} {news : List (Addr × Obj)} {rs : List Rec} {r : Rec} {kS : Nat} (J : StJ S o113 P a0 a1 i news rs r kS) : P ∈ news := by
  have hled := J.led
  cases rs with
  | nil =>
    have := (J.head r rfl).1
    rw [← this, hled]
    exact .tail _ (.tail _ (.head _))
  | cons q qs =>
    have := (J.head q rfl).1
    rw [← this, hled]
    simp [Rec.objs]
theorem pack1 {S ls0 D0 lf lt : Addr} (l1 : ls0 < S ∧ D0 < S ∧ lf < S ∧ lt < S ∧ 113 < S) (l2 : D0 < ls0 ∧ lf < ls0 ∧ lt < ls0 ∧ 113 < ls0) (o1 : lf ≠ D0 ∧ lt ≠ D0 ∧ 113 ≠ D0) (h113 : @Ne Nat lf 113 ∧ @Ne Nat lt 113) (hfl : @Ne Nat lf lt) :
    (@Ne Nat S lt ∧ @Ne Nat ls0 lt ∧ @Ne Nat D0 lt ∧ @Ne Nat lf lt ∧ @Ne Nat 113 lt) ∧ (@Ne Nat ls0 S ∧ @Ne Nat lf S ∧ @Ne Nat D0 S ∧ @Ne Nat S 113) ∧ (@Ne Nat ls0 113 ∧ @Ne Nat lf 113 ∧ @Ne Nat D0 113) :=
  ⟨⟨(Nat.ne_of_lt l1.2.2.2.1).symm, (Nat.ne_of_lt l2.2.2.1).symm, fun e => o1.2.1 e.symm, hfl, fun e => h113.2 e.symm⟩, ⟨Nat.ne_of_lt l1.1, Nat.ne_of_lt l1.2.2.1, Nat.ne_of_lt l1.2.1, (Nat.ne_of_lt l1.2.2.2.2).symm⟩, ⟨(Nat.ne_of_lt l2.2.2.2).symm, h113.1, fun e => o1.2.2 e.symm⟩⟩
set_option maxRecDepth 100000 in
set_option maxHeartbeats 8000000 in
theorem states_ok (w : World) (loose : List Str) (mean : ExcName → Option Value) (mg mb : Str → Option Value) (lf lt : Addr) (a0 a1 : Int) (ta0 ta1 : Tok) (k1 kl : Nat) (vs : List Value) (ns : List Int) (hI : IntsAre vs ns)
   (dp un gd cn cs a ccd cl outer A₀ base h₀ L m s Q) (B : Below A₀ base outer h₀) (F : Fr h₀ L s.heap m) (X : (hd.heap_39 w.params).In h₀) (T : Top topProg loose mean mg mb h₀) (hk : cs.kind = .function)
   (o113 : Obj) (h113 : @Ne Nat lf 113 ∧ @Ne Nat lt 113) (hfl : @Ne Nat lf lt) (hA0 : 0 ≤ a0 ∧ a0 < 2 ^ 32) (hA1 : 0 ≤ a1 ∧ a1 < 2 ^ 32) (hns : ns.length ≤ 1000)
   (N : News h₀ L s.heap [(lf, W.listOf #[.int a0 ta0, .int a1 ta1] k1), (lt, W.listOf vs.toArray kl), (113, o113)])
   (hdp : dp + 30 < 1000) (hun : un + 400 < 9900)
   (hret : ∀ S rs r kS h' tk', Fr h₀ L h' m → (∀ b o, s.heap.get? b = some o → h'.get? b = some o) → News h₀ L h' ((S, W.listOf (rs.map (fun q => Value.ref q.ls) ++ [Value.ref r.ls]).toArray kS) :: (r.ls, W.listOf #[.ref r.lm, .ref r.lr] r.k1) :: (r.lm, W.listOf #[.int r.b0 r.t0, .int r.b1 r.t1] r.k2) :: (r.lr, W.listOf #[.str (fm r.b0) r.u0, .str (fm r.b1) r.u1] r.k3) :: (113, o113) :: rs.flatMap Rec.objs) →
     (∀ p ∈ ((S, W.listOf (rs.map (fun q => Value.ref q.ls) ++ [Value.ref r.ls]).toArray kS) :: (r.ls, W.listOf #[.ref r.lm, .ref r.lr] r.k1) :: (r.lm, W.listOf #[.int r.b0 r.t0, .int r.b1 r.t1] r.k2) :: (r.lr, W.listOf #[.str (fm r.b0) r.u0, .str (fm r.b1) r.u1] r.k3) :: (113, o113) :: rs.flatMap Rec.objs), s.heap.get? p.1 = none ∨ p.1 = lf ∨ p.1 = lt ∨ p.1 = 113) →
     StJ S o113 (lf, W.listOf #[.int a0 ta0, .int a1 ta1] k1) a0 a1 ns.length ((S, W.listOf (rs.map (fun q => Value.ref q.ls) ++ [Value.ref r.ls]).toArray kS) :: (r.ls, W.listOf #[.ref r.lm, .ref r.lr] r.k1) :: (r.lm, W.listOf #[.int r.b0 r.t0, .int r.b1 r.t1] r.k2) :: (r.lr, W.listOf #[.str (fm r.b0) r.u0, .str (fm r.b1) r.u1] r.k3) :: (113, o113) :: rs.flatMap Rec.objs) rs r kS → Q (.ref S) { s with heap := h', toks := tk' }) :
   wpAny (model PySem.Challenge.rw_mq0191_01.row.prog w) (ktrTop dp un gd cn cs L a ccd cl outer) (call (.ref 94) [.ref lf, .ref lt]) Q (fun _ _ => False) s := by
  walk_at "MINE fill"
  walk_at "MINE enter"
  intro g' L' h' FG' F' N' B' X' T' GS'
  refine wpAny_noRaise ?_
  (try dsimp only)
  k_steps
  refine unstop (for_start ?_)
  k_steps
  rename Fr _ _ _ _ => F2; rename News _ _ _ _ => N2
  refine unstop ?_
  have hp := pack1 (by assumption) (by assumption) (by assumption) h113 hfl
  refine states_loop rfl F2 N2 hI hA0 hA1 hp.1 hp.2.1 hp.2.2 rfl ?turn ?done
  case turn =>
    clear F2 N2 hp
    repeat (rename (_ ≠ _ ∧ _) => hj; clear hj)
    repeat (rename (_ < _ ∧ _) => hj; clear hj)
    repeat (rename (OwnOff _ _) => hj; clear hj)
    intro I i n ti u rs r kS h3 tk3 o3 rest hrest hn ho hlen hok hoff hr hSI F3 N3
    obtain ⟨⟨hk1, hk2, hk3⟩, hb0, hb1⟩ := hok
    have hsz : (List.map (fun q => Value.ref q.ls) rs ++ [Value.ref r.ls]).toArray.size ≤ sizeLine := by
      have hi : i < ns.length := (List.getElem?_eq_some_iff.mp hn).1
      simp only [List.size_toArray, List.length_append, List.length_map, List.length_cons, List.length_nil, sizeLine_eq]
      omega
    have hx2 : Int.fmod n 2 = ((0 : Nat) : Int) ∨ Int.fmod n 2 = ((1 : Nat) : Int) := by
      have h1 := Int.fmod_nonneg_of_pos n (show (0 : Int) < 2 by decide)
      have h2 := Int.fmod_lt_of_pos n (show (0 : Int) < 2 by decide)
      omega
    rcases hx2 with hx2 | hx2
    · k_steps
      exact QEnd.mk (by assumption) rfl (by assumption) (by assumption) (by assumption) (by assumption) (xor_boundF hb0 (by assumption) (by assumption)) hb1
    · k_steps
      exact QEnd.mk (by assumption) rfl (by assumption) (by assumption) (by assumption) (by assumption) hb0 (xor_boundF hb1 (by assumption) (by assumption))
  case done =>
    repeat (rename (_ ≠ _ ∧ _) => hj; clear hj)
    repeat (rename (_ < _ ∧ _) => hj; clear hj)
    repeat (rename (OwnOff _ _) => hj; clear hj)
    intro rs r kS u h3 tk3 J F3 N3
    k_steps
    clear F2 N2
    rename Fr h₀ _ _ _ => kF
    rename News h₀ _ _ _ => kN
    refine hret _ rs r kS _ _ kF (keep_all GS' N F3 N3 ?_) (fun p hp => kN p (.tail _ hp)) ?_ J
    · intro p hp
      simp only [List.mem_cons, List.not_mem_nil, or_false] at hp
      rcases hp with rfl | rfl | rfl
      · exact .tail _ (head_in J)
      · exact .head _
      · exact .tail _ (.tail _ (.tail _ (.tail _ (.tail _ (.head _)))))
    · intro p hp
      have hn := (N3 p (.tail _ hp)).2.2
      cases e : s.heap.get? p.1 with
      | none => exact .inl rfl
      | some o =>
        refine .inr ?_
        by_cases hb : p.1 ∈ [lf, lt, 113]
        · simpa using hb
        · have := GS' p.1 o e (by simpa using hb)
          rw [this] at hn
          cases hn
end Mine

/-! P1 -/
namespace Mine
set_option Elab.async false
set_option linter.unusedVariables false
set_option linter.unusedSimpArgs false
theorem and_bit (N j : Nat) : N &&& 2 ^ j = if N.testBit j then 2 ^ j else 0 := by
  rw [kbt_nat, Nat.testBit_eq_decide_div_mod_eq]
  rcases Nat.mod_two_eq_zero_or_one (N / 2 ^ j) with h | h <;> simp [h]
theorem and_two (N i j : Nat) : N &&& (2 ^ i ||| 2 ^ j) = (if N.testBit i then 2 ^ i else 0) ||| (if N.testBit j then 2 ^ j else 0) := by
  rw [Nat.and_or_distrib_left, and_bit, and_bit]
def one (b : Bool) (c : Str) : Str := if b then c else Str.ofString "-"
def three (lo hi : Bool) (c d e : Str) : Str := if lo && hi then c else if hi then d else if lo then e else Str.ofString "-"
theorem hit_nat (N : Nat) (i bit : Nat) (hi : i ≠ 0) : hitB (N : Int) i (bit : Int) = decide (N &&& bit = bit) := by
  unfold hitB
  rw [if_neg hi, bitAnd_nat]
  congr 1
  apply propext
  omega
theorem row_one (N : Nat) (i j : Nat) (hi : i ≠ 0) (e : Ent) (he : e.bit = ((2 ^ j : Nat) : Int)) : pick (N : Int) i [e] = one (N.testBit j) e.ch := by
  show (if hitB (N : Int) i e.bit then e.ch else if i = 0 then _ else _) = _
  rw [he, hit_nat N i _ hi, and_bit, if_neg hi]
  unfold one
  have : (2 : Nat) ^ j ≠ 0 := Nat.pos_iff_ne_zero.mp (Nat.two_pow_pos j)
  cases N.testBit j <;> simp [this.symm]
theorem row_three (N : Nat) (i lo hi2 : Nat) (hi : i ≠ 0) (hl : lo ≠ hi2) (e f g : Ent) (he : e.bit = ((2 ^ lo ||| 2 ^ hi2 : Nat) : Int)) (hf : f.bit = ((2 ^ hi2 : Nat) : Int)) (hg : g.bit = ((2 ^ lo : Nat) : Int))
    (d1 : 2 ^ lo ≠ 2 ^ lo ||| 2 ^ hi2) (d2 : 2 ^ hi2 ≠ 2 ^ lo ||| 2 ^ hi2) (d3 : 0 ≠ 2 ^ lo ||| 2 ^ hi2) :
    pick (N : Int) i [e, f, g] = three (N.testBit lo) (N.testBit hi2) e.ch f.ch g.ch := by
  show (if hitB (N : Int) i e.bit then e.ch else if hitB (N : Int) i f.bit then f.ch else if hitB (N : Int) i g.bit then g.ch else if i = 0 then _ else _) = _
  rw [he, hf, hg, hit_nat N i _ hi, hit_nat N i _ hi, hit_nat N i _ hi, and_two, and_bit, and_bit, if_neg hi]
  unfold three
  have z1 : (0 : Nat) ≠ 2 ^ lo := (Nat.pos_iff_ne_zero.mp (Nat.two_pow_pos _)).symm
  have z2 : (0 : Nat) ≠ 2 ^ hi2 := (Nat.pos_iff_ne_zero.mp (Nat.two_pow_pos _)).symm
  cases N.testBit lo <;> cases N.testBit hi2 <;> simp [d1, d2, d3, z1, z2]
theorem one_iff {c : Str} (hc : c ≠ Str.ofString "-") (p q : Bool) : one p c = one q c ↔ (p ^^ q) = false := by
  cases p <;> cases q <;> simp [one, hc, hc.symm]
theorem three_iff {c d e : Str} (h1 : c ≠ d) (h2 : c ≠ e) (h3 : c ≠ Str.ofString "-") (h4 : d ≠ e) (h5 : d ≠ Str.ofString "-") (h6 : e ≠ Str.ofString "-") (p q p' q' : Bool) :
    three p q c d e = three p' q' c d e ↔ (p ^^ p') = false ∧ (q ^^ q') = false := by
  cases p <;> cases q <;> cases p' <;> cases q' <;> simp [three, h1, h2, h3, h4, h5, h6, h1.symm, h2.symm, h3.symm, h4.symm, h5.symm, h6.symm]
theorem shown_nat (N M bit : Nat) (hb : 4095 &&& bit = bit) : (Builtin.bitAnd (Builtin.bitAnd (Builtin.bitXor (N : Int) (M : Int)) 4095) (bit : Int) = 0) ↔ (N ^^^ M) &&& bit = 0 := by
  rw [bitXor_nat, show (4095 : Int) = ((4095 : Nat) : Int) from rfl, bitAnd_nat, bitAnd_nat, Nat.and_assoc, hb]
  omega
theorem shown_one (N M j bit : Nat) (e : bit = 2 ^ j) (hb : 4095 &&& bit = bit) : (Builtin.bitAnd (Builtin.bitAnd (Builtin.bitXor (N : Int) (M : Int)) 4095) (bit : Int) = 0) ↔ (N.testBit j ^^ M.testBit j) = false := by
  rw [shown_nat N M bit hb, e, and_bit, Nat.testBit_xor]
  have : (2 : Nat) ^ j ≠ 0 := Nat.pos_iff_ne_zero.mp (Nat.two_pow_pos j)
  cases (N.testBit j ^^ M.testBit j) <;> simp [this]
theorem shown_two (N M i j bit : Nat) (e : bit = 2 ^ i ||| 2 ^ j) (hb : 4095 &&& bit = bit) : (Builtin.bitAnd (Builtin.bitAnd (Builtin.bitXor (N : Int) (M : Int)) 4095) (bit : Int) = 0) ↔ (N.testBit i ^^ M.testBit i) = false ∧ (N.testBit j ^^ M.testBit j) = false := by
  rw [shown_nat N M bit hb, e, and_two, Nat.testBit_xor, Nat.testBit_xor]
  have z1 : (2 : Nat) ^ i ≠ 0 := Nat.pos_iff_ne_zero.mp (Nat.two_pow_pos _)
  have z2 : (2 : Nat) ^ j ≠ 0 := Nat.pos_iff_ne_zero.mp (Nat.two_pow_pos _)
  cases (N.testBit i ^^ M.testBit i) <;> cases (N.testBit j ^^ M.testBit j) <;> simp [Nat.or_eq_zero_iff, z1, z2]
def maskAt : List Int := [256, 128, 2112, 32, 16, 1032, 4, 2, 513]
theorem row_iff (N M : Nat) : ∀ k, k < 9 → ((Builtin.bitAnd (Builtin.bitAnd (Builtin.bitXor (N : Int) (M : Int)) 4095) (([256, 128, 2112, 32, 16, 1032, 4, 2, 513] : List Int).getD k 0) = 0) ↔ rowChar (N : Int) (k + 1) = rowChar (M : Int) (k + 1)) := by
  intro k hk
  have hk' : k = 0 ∨ k = 1 ∨ k = 2 ∨ k = 3 ∨ k = 4 ∨ k = 5 ∨ k = 6 ∨ k = 7 ∨ k = 8 := by omega
  rcases hk' with rfl | rfl | rfl | rfl | rfl | rfl | rfl | rfl | rfl
  · refine (shown_one N M 8 256 (by decide) (by decide)).trans ?_
    have h : ∀ N : Nat, rowChar (N : Int) 1 = one (N.testBit 8) "r" := fun N => row_one N 1 8 (by decide) _ rfl
    rw [h, h, one_iff (by decide)]
  · refine (shown_one N M 7 128 (by decide) (by decide)).trans ?_
    have h : ∀ N : Nat, rowChar (N : Int) 2 = one (N.testBit 7) "w" := fun N => row_one N 2 7 (by decide) _ rfl
    rw [h, h, one_iff (by decide)]
  · refine (shown_two N M 6 11 2112 (by decide) (by decide)).trans ?_
    have h : ∀ N : Nat, rowChar (N : Int) 3 = three (N.testBit 6) (N.testBit 11) "s" "S" "x" := fun N => row_three N 3 6 11 (by decide) (by decide) _ _ _ rfl rfl rfl (by decide) (by decide) (by decide)
    rw [h, h, three_iff (by decide) (by decide) (by decide) (by decide) (by decide) (by decide)]
  · refine (shown_one N M 5 32 (by decide) (by decide)).trans ?_
    have h : ∀ N : Nat, rowChar (N : Int) 4 = one (N.testBit 5) "r" := fun N => row_one N 4 5 (by decide) _ rfl
    rw [h, h, one_iff (by decide)]
  · refine (shown_one N M 4 16 (by decide) (by decide)).trans ?_
    have h : ∀ N : Nat, rowChar (N : Int) 5 = one (N.testBit 4) "w" := fun N => row_one N 5 4 (by decide) _ rfl
    rw [h, h, one_iff (by decide)]
  · refine (shown_two N M 3 10 1032 (by decide) (by decide)).trans ?_
    have h : ∀ N : Nat, rowChar (N : Int) 6 = three (N.testBit 3) (N.testBit 10) "s" "S" "x" := fun N => row_three N 6 3 10 (by decide) (by decide) _ _ _ rfl rfl rfl (by decide) (by decide) (by decide)
    rw [h, h, three_iff (by decide) (by decide) (by decide) (by decide) (by decide) (by decide)]
  · refine (shown_one N M 2 4 (by decide) (by decide)).trans ?_
    have h : ∀ N : Nat, rowChar (N : Int) 7 = one (N.testBit 2) "r" := fun N => row_one N 7 2 (by decide) _ rfl
    rw [h, h, one_iff (by decide)]
  · refine (shown_one N M 1 2 (by decide) (by decide)).trans ?_
    have h : ∀ N : Nat, rowChar (N : Int) 8 = one (N.testBit 1) "w" := fun N => row_one N 8 1 (by decide) _ rfl
    rw [h, h, one_iff (by decide)]
  · refine (shown_two N M 0 9 513 (by decide) (by decide)).trans ?_
    have h : ∀ N : Nat, rowChar (N : Int) 9 = three (N.testBit 0) (N.testBit 9) "t" "T" "x" := fun N => row_three N 9 0 9 (by decide) (by decide) _ _ _ rfl rfl rfl (by decide) (by decide) (by decide)
    rw [h, h, three_iff (by decide) (by decide) (by decide) (by decide) (by decide) (by decide)]
/-- the kind's four bits -/
def four (a b c d : Bool) : Nat := (if a then 4096 else 0) ||| ((if b then 8192 else 0) ||| ((if c then 16384 else 0) ||| (if d then 32768 else 0)))
theorem and_four (N : Nat) : N &&& 61440 = four (N.testBit 12) (N.testBit 13) (N.testBit 14) (N.testBit 15) := by
  have e : (61440 : Nat) = 2 ^ 12 ||| (2 ^ 13 ||| (2 ^ 14 ||| 2 ^ 15)) := by decide
  rw [e, Nat.and_or_distrib_left, Nat.and_or_distrib_left, Nat.and_or_distrib_left, and_bit, and_bit, and_bit, and_bit]
  rfl
def sign4 (x : Nat) : Str := if x = 40960 then "l" else if x = 49152 then "s" else if x = 32768 then "-" else if x = 24576 then "b" else if x = 16384 then "d" else if x = 8192 then "c" else if x = 4096 then "p" else "?"
def kind4 (x : Nat) : Int := if ((x : Int).fdiv 4096) ∈ ([1, 2, 4, 6, 8, 10, 12] : List Int) then (x : Int).fdiv 4096 else 0
theorem kind_iff4 : ∀ a b c d a' b' c' d' : Bool, kind4 (four a b c d) = kind4 (four a' b' c' d') ↔ sign4 (four a b c d) = sign4 (four a' b' c' d') := by decide
theorem row_zero (N : Nat) : rowChar (N : Int) 0 = sign4 (N &&& 61440) := by
  have h : ∀ bit : Nat, hitB (N : Int) 0 (bit : Int) = decide (N &&& 61440 = bit) := by
    intro bit
    unfold hitB
    rw [if_pos rfl, show (61440 : Int) = ((61440 : Nat) : Int) from rfl, bitAnd_nat]
    congr 1
    apply propext
    omega
  show (if hitB (N : Int) 0 ((40960 : Nat) : Int) then _ else if hitB (N : Int) 0 ((49152 : Nat) : Int) then _ else if hitB (N : Int) 0 ((32768 : Nat) : Int) then _ else if hitB (N : Int) 0 ((24576 : Nat) : Int) then _ else if hitB (N : Int) 0 ((16384 : Nat) : Int) then _ else if hitB (N : Int) 0 ((8192 : Nat) : Int) then _ else if hitB (N : Int) 0 ((4096 : Nat) : Int) then _ else if (0 : Nat) = 0 then _ else _) = _
  simp only [h, decide_eq_true_eq, if_true]
  rfl
theorem kind_row (N M : Nat) : kindF (N : Int) = kindF (M : Int) ↔ rowChar (N : Int) 0 = rowChar (M : Int) 0 := by
  have h : ∀ N : Nat, kindF (N : Int) = kind4 (N &&& 61440) := by
    intro N
    unfold kindF kind4
    rw [show (61440 : Int) = ((61440 : Nat) : Int) from rfl, bitAnd_nat]
  rw [h, h, row_zero, row_zero, and_four, and_four]
  exact kind_iff4 ..
end Mine

/-! P2 -/
namespace Mine
set_option Elab.async false
set_option linter.unusedVariables false
set_option linter.unusedSimpArgs false
theorem fold_filter (c : Int → Prop) [DecidablePred c] (g : Int → Int) : ∀ (ks l : List Int), (ks.foldl (fun l k => if c k then l ++ [g k] else l) l) = l ++ (ks.filter fun k => decide (c k)).map g
  | [], l => by simp
  | k :: ks, l => by
    rw [List.foldl_cons]
    by_cases h : c k
    · rw [if_pos h, fold_filter c g ks]
      simp [h]
    · rw [if_neg h, fold_filter c g ks]
      simp [h]
theorem range_sorted (a : Int) (n : Nat) : (rangeKs a n).Pairwise (· < ·) := by
  unfold rangeKs
  rw [List.pairwise_map]
  refine List.Pairwise.imp ?_ List.pairwise_lt_range
  intro x y h
  omega
theorem unlikeP_is (N M : Nat) : unlikeP (N : Int) (M : Int) = ((rangeKs 0 9).filter fun k => decide (¬Builtin.bitAnd (Builtin.bitAnd (Builtin.bitXor (N : Int) (M : Int)) 4095) (([256, 128, 2112, 32, 16, 1032, 4, 2, 513] : List Int).getD k.toNat 0) = 0)).map (· + 1) := by
  unfold unlikeP
  exact (fold_filter (fun k' => ¬Builtin.bitAnd (Builtin.bitAnd (Builtin.bitXor (N : Int) (M : Int)) 4095) (([256, 128, 2112, 32, 16, 1032, 4, 2, 513] : List Int).getD k'.toNat 0) = 0) (· + 1) _ []).trans (by simp)
theorem unlikeP_mem (N M : Nat) (z : Int) : z ∈ unlikeP (N : Int) (M : Int) ↔ ∃ k : Nat, (1 ≤ k ∧ k < 10) ∧ z = k ∧ rowChar (N : Int) k ≠ rowChar (M : Int) k := by
  rw [unlikeP_is]
  simp only [List.mem_map, List.mem_filter, decide_eq_true_eq]
  constructor
  · rintro ⟨k, ⟨hk, hc⟩, rfl⟩
    have hb := mem_rangeKs hk
    obtain ⟨i, rfl⟩ := Int.eq_ofNat_of_zero_le hb.1
    have hi : i < 9 := by omega
    refine ⟨i + 1, by omega, by simp, ?_⟩
    rw [Int.toNat_natCast] at hc
    exact fun e => hc ((row_iff N M i hi).mpr e)
  · rintro ⟨k, ⟨h1, h2⟩, rfl, hne⟩
    refine ⟨((k - 1 : Nat) : Int), ⟨?_, ?_⟩, by omega⟩
    · unfold rangeKs
      refine List.mem_map.mpr ⟨k - 1, List.mem_range.mpr (by omega), by omega⟩
    · rw [Int.toNat_natCast]
      intro e
      have := (row_iff N M (k - 1) (by omega)).mp e
      rw [show k - 1 + 1 = k by omega] at this
      exact hne this
theorem unlikeP_sorted (N M : Nat) : (unlikeP (N : Int) (M : Int)).Pairwise (· < ·) := by
  rw [unlikeP_is, List.pairwise_map]
  refine List.Pairwise.imp ?_ ((range_sorted 0 9).filter _)
  intro x y h
  omega
theorem unlikeL_mem (N M : Nat) (z : Int) : z ∈ unlikeL (N : Int) (M : Int) ↔ ∃ k : Nat, k < 10 ∧ z = k ∧ rowChar (N : Int) k ≠ rowChar (M : Int) k := by
  have h0 : (∃ k : Nat, k < 10 ∧ z = k ∧ rowChar (N : Int) k ≠ rowChar (M : Int) k) ↔ (z = 0 ∧ rowChar (N : Int) 0 ≠ rowChar (M : Int) 0) ∨ z ∈ unlikeP (N : Int) (M : Int) := by
    rw [unlikeP_mem]
    constructor
    · rintro ⟨k, h1, h2, h3⟩
      by_cases hk : k = 0
      · subst hk; exact .inl ⟨h2, h3⟩
      · exact .inr ⟨k, ⟨by omega, h1⟩, h2, h3⟩
    · rintro (⟨h1, h2⟩ | ⟨k, ⟨_, h1⟩, h2, h3⟩)
      · exact ⟨0, by omega, h1, h2⟩
      · exact ⟨k, h1, h2, h3⟩
  rw [h0]
  unfold unlikeL
  have hk := kind_row N M
  split
  · rename_i h
    have := hk.mp h
    simp [this]
  · rename_i h
    have : rowChar (N : Int) 0 ≠ rowChar (M : Int) 0 := fun e => h (hk.mpr e)
    simp [this]
theorem unlikeL_sorted (N M : Nat) : (unlikeL (N : Int) (M : Int)).Pairwise (· < ·) := by
  unfold unlikeL
  split
  · exact unlikeP_sorted N M
  · refine List.pairwise_cons.mpr ⟨?_, unlikeP_sorted N M⟩
    intro z hz
    obtain ⟨k, ⟨h1, _⟩, rfl, _⟩ := (unlikeP_mem N M z).mp hz
    omega
/-- the signs of two modes, one behind the other -/
noncomputable def codes2 (x y : Int) : List Nat := (List.range 10).map (rowCode x) ++ (List.range 10).map (rowCode y)
theorem codes2_is (x y : Int) : (joinF (fm x) (fm y)).cps.toList = codes2 x y := by
  rw [joinF_cps, Array.toList_append, fm_codes, fm_codes]
  rfl
theorem codes2_len (x y : Int) : (codes2 x y).length = 20 := by simp [codes2]
theorem codes2_lo (x y : Int) {p : Nat} (h : p < 10) : (codes2 x y)[p]? = some (rowCode x p) := by
  unfold codes2
  rw [List.getElem?_append_left (by simpa using h)]
  simp [h]
theorem codes2_hi (x y : Int) {p : Nat} (h : 10 ≤ p) (h2 : p < 20) : (codes2 x y)[p]? = some (rowCode y (p - 10)) := by
  unfold codes2
  rw [List.getElem?_append_right (by simpa using h), List.length_map, List.length_range, List.getElem?_map, List.getElem?_range (show p - 10 < 10 by omega)]
  rfl
theorem places_is (a0 a1 b0 b1 : Int) : flatI (plL a0 a1 b0 b1) plF 2 = (unlikeL a0 b0).map (plF 0) ++ (unlikeL a1 b1).map (plF 1) := by
  rw [flatI_succ, flatI_succ]
  rfl
theorem places_mem (a0 a1 b0 b1 : Nat) (z : Int) : z ∈ flatI (plL a0 a1 b0 b1) plF 2 ↔ ∃ p : Nat, p < 20 ∧ z = p ∧ (codes2 a0 a1)[p]? ≠ (codes2 b0 b1)[p]? := by
  rw [places_is, List.mem_append, List.mem_map, List.mem_map]
  constructor
  · rintro (⟨k, hk, rfl⟩ | ⟨k, hk, rfl⟩)
    · obtain ⟨i, h1, rfl, h2⟩ := (unlikeL_mem a0 b0 k).mp hk
      refine ⟨i, by omega, by unfold plF; omega, ?_⟩
      rw [codes2_lo _ _ h1, codes2_lo _ _ h1]
      exact fun e => h2 ((rowCode_iff _ _ _).mp (Option.some.inj e))
    · obtain ⟨i, h1, rfl, h2⟩ := (unlikeL_mem a1 b1 k).mp hk
      refine ⟨10 + i, by omega, by unfold plF; omega, ?_⟩
      rw [codes2_hi _ _ (by omega) (by omega), codes2_hi _ _ (by omega) (by omega), show 10 + i - 10 = i by omega]
      exact fun e => h2 ((rowCode_iff _ _ _).mp (Option.some.inj e))
  · rintro ⟨p, h1, rfl, h2⟩
    by_cases hp : p < 10
    · rw [codes2_lo _ _ hp, codes2_lo _ _ hp] at h2
      exact .inl ⟨p, (unlikeL_mem a0 b0 p).mpr ⟨p, hp, rfl, fun e => h2 (congrArg some ((rowCode_iff _ _ _).mpr e))⟩, by unfold plF; omega⟩
    · rw [codes2_hi _ _ (by omega) h1, codes2_hi _ _ (by omega) h1] at h2
      exact .inr ⟨((p - 10 : Nat) : Int), (unlikeL_mem a1 b1 _).mpr ⟨p - 10, by omega, rfl, fun e => h2 (congrArg some ((rowCode_iff _ _ _).mpr e))⟩, by unfold plF; omega⟩
theorem places_sorted (a0 a1 b0 b1 : Nat) : (flatI (plL a0 a1 b0 b1) plF 2).Pairwise (· < ·) := by
  rw [places_is, List.pairwise_append]
  refine ⟨?_, ?_, ?_⟩
  · rw [List.pairwise_map]
    refine List.Pairwise.imp ?_ (unlikeL_sorted a0 b0)
    intro x y h
    unfold plF
    omega
  · rw [List.pairwise_map]
    refine List.Pairwise.imp ?_ (unlikeL_sorted a1 b1)
    intro x y h
    unfold plF
    omega
  · intro x hx y hy
    obtain ⟨k, hk, rfl⟩ := List.mem_map.mp hx
    obtain ⟨k', hk', rfl⟩ := List.mem_map.mp hy
    obtain ⟨i, h1, rfl, _⟩ := (unlikeL_mem a0 b0 k).mp hk
    obtain ⟨j, h2, rfl, _⟩ := (unlikeL_mem a1 b1 k').mp hk'
    unfold plF
    omega
theorem sorted_head : ∀ {P : List Int}, P ≠ [] → P.Pairwise (· < ·) → P.headD 0 ∈ P ∧ ∀ p ∈ P, P.headD 0 ≤ p
  | [], h, _ => absurd rfl h
  | x :: r, _, h => by
    refine ⟨.head _, ?_⟩
    intro p hp
    show x ≤ p
    rcases List.mem_cons.mp hp with rfl | hp
    · exact Int.le_refl _
    · exact Int.le_of_lt ((List.pairwise_cons.mp h).1 p hp)
theorem sorted_last : ∀ {P : List Int} (d : Int), P ≠ [] → P.Pairwise (· < ·) → P.getLastD d ∈ P ∧ ∀ p ∈ P, p ≤ P.getLastD d
  | [], _, h, _ => absurd rfl h
  | [x], _, _, _ => by simp
  | x :: y :: r, d, _, h => by
    have i := sorted_last (P := y :: r) x (by simp) (List.pairwise_cons.mp h).2
    have e : (x :: y :: r).getLastD d = (y :: r).getLastD x := rfl
    rw [e]
    refine ⟨.tail _ i.1, ?_⟩
    intro p hp
    rcases List.mem_cons.mp hp with rfl | hp
    · have := (List.pairwise_cons.mp h).1 _ i.1
      omega
    · exact i.2 p hp
theorem pre_is (n : Int) : preF n = max 0 ((n - 3) / 2) := by
  unfold preF
  rw [Int.fdiv_eq_ediv_of_nonneg _ (by decide)]
  split <;> omega
theorem post_is (n : Int) : postF n = max 0 (n - 3 - preF n) := by
  unfold postF
  split <;> omega
theorem least_bounds (a0 a1 b0 b1 : Nat) : 0 ≤ leastF (flatI (plL a0 a1 b0 b1) plF 2) ∧ leastF (flatI (plL a0 a1 b0 b1) plF 2) ≤ 22 := by
  unfold leastF
  split
  · omega
  · rename_i h
    have h1 := (places_mem a0 a1 b0 b1 _).mp (sorted_head h (places_sorted a0 a1 b0 b1)).1
    have h2 := (places_mem a0 a1 b0 b1 _).mp (sorted_last 0 h (places_sorted a0 a1 b0 b1)).1
    obtain ⟨p, hp, e1, _⟩ := h1
    obtain ⟨q, hq, e2, _⟩ := h2
    rw [e1, e2]
    omega
theorem least_iff {P : List Int} (hs : P.Pairwise (· < ·)) (hb : ∀ p ∈ P, 0 ≤ p ∧ p < 20) (n : Int) (h1 : -1 ≤ n) (h2 : n < 22) :
    n < leastF P ↔ if n < 20 then ∀ p ∈ P, preF n ≤ p ∧ p < 20 - postF n else P = [] := by
  by_cases he : P = []
  · subst he
    simp [leastF, h2]
  · unfold leastF
    rw [if_neg he]
    obtain ⟨m1, l1⟩ := sorted_head he hs
    obtain ⟨m2, l2⟩ := sorted_last 0 he hs
    have b1 := hb _ m1
    have b2 := hb _ m2
    generalize P.headD 0 = x at *
    generalize P.getLastD 0 = y at *
    split
    · rename_i hn
      rw [pre_is, post_is, pre_is]
      constructor
      · intro h p hp
        have := l1 p hp
        have := l2 p hp
        omega
      · intro h
        have := h x m1
        have := h y m2
        omega
    · rename_i hn
      constructor
      · intro h; omega
      · intro h; exact absurd h he
theorem slice_pre {x : Str} (hx : x.length = 20) {n : Int} (h : n < 20) : (Txt.slice x none (some (preF n))).cps.toList = x.cps.toList.take (preF n).toNat := by
  have := eq_of_beq (slice_closes_toL (x := x) (j := preF n) (by rw [pre_is]; omega) (by rw [hx, pre_is]; omega))
  rw [this]
  simp
theorem slice_post {x : Str} (hx : x.length = 20) {n : Int} (h : n < 20) : (Txt.slice x (some (20 - postF n)) none).cps.toList = x.cps.toList.drop (20 - postF n).toNat := by
  have := eq_of_beq (slice_closes_fromL (x := x) (i := 20 - postF n) (b := 20) (by rw [post_is, pre_is]; omega) (by rw [hx, post_is, pre_is]; omega) (by rw [hx]; rfl))
  rw [this]
  simp only
  rw [List.take_of_length_le]
  have hl : x.cps.toList.length = 20 := by rw [Array.length_toList]; exact hx
  rw [List.length_drop, hl]
  rw [post_is, pre_is]
  omega
theorem cram_iff {x y : Str} (hx : x.length = 20) (hy : y.length = 20) (n : Int) (h1 : -1 ≤ n) (h2 : n < 22) :
    cramF x n = cramF y n ↔ if n < 20 then (∀ p : Nat, p < 20 → x.cps.toList[p]? ≠ y.cps.toList[p]? → preF n ≤ p ∧ (p : Int) < 20 - postF n) else ∀ p : Nat, p < 20 → ¬ (x.cps.toList[p]? ≠ y.cps.toList[p]?) := by
  have hlx : x.cps.toList.length = 20 := by rw [Array.length_toList]; exact hx
  have hly : y.cps.toList.length = 20 := by rw [Array.length_toList]; exact hy
  have beyond : ∀ p, ¬ p < 20 → x.cps.toList[p]? = y.cps.toList[p]? := by
    intro p hp
    rw [List.getElem?_eq_none (by omega), List.getElem?_eq_none (by omega)]
  unfold cramF
  split
  · rename_i hn
    have e : (Txt.slice x none (some (preF n)) ++ Str.ofString "..." ++ Txt.slice x (some (20 - postF n)) none = Txt.slice y none (some (preF n)) ++ Str.ofString "..." ++ Txt.slice y (some (20 - postF n)) none) ↔
        (x.cps.toList.take (preF n).toNat = y.cps.toList.take (preF n).toNat ∧ x.cps.toList.drop (20 - postF n).toNat = y.cps.toList.drop (20 - postF n).toNat) := by
      have key : ∀ z : Str, z.length = 20 → (Txt.slice z none (some (preF n)) ++ Str.ofString "..." ++ Txt.slice z (some (20 - postF n)) none).cps.toList = (z.cps.toList.take (preF n).toNat ++ (Str.ofString "...").cps.toList) ++ z.cps.toList.drop (20 - postF n).toNat := by
        intro z hz
        rw [Str.cps_append, Str.cps_append, Array.toList_append, Array.toList_append, slice_pre hz hn, slice_post hz hn]
      constructor
      · intro h
        have h' := congrArg (fun s : Str => s.cps.toList) h
        simp only [key x hx, key y hy] at h'
        have := List.append_inj h' (by simp [hlx, hly])
        exact ⟨List.append_cancel_right this.1, this.2⟩
      · rintro ⟨h3, h4⟩
        refine Str.ext' (Array.toList_inj.mp ?_)
        rw [key x hx, key y hy, h3, h4]
    rw [e]
    constructor
    · rintro ⟨h3, h4⟩ p hp hne
      constructor
      · false_or_by_contra
        rename_i hc
        have := congrArg (fun l : List Nat => l[p]?) h3
        simp only [List.getElem?_take] at this
        rw [if_pos (by omega), if_pos (by omega)] at this
        exact hne this
      · false_or_by_contra
        rename_i hc
        have := congrArg (fun l : List Nat => l[p - (20 - postF n).toNat]?) h4
        simp only [List.getElem?_drop] at this
        rw [show (20 - postF n).toNat + (p - (20 - postF n).toNat) = p by omega] at this
        exact hne this
    · intro h
      constructor
      · refine List.ext_getElem? fun p => ?_
        rw [List.getElem?_take, List.getElem?_take]
        split
        · rename_i hp
          by_cases h20 : p < 20
          · false_or_by_contra
            rename_i hc
            have := (h p h20 hc).1
            omega
          · exact beyond p h20
        · rfl
      · refine List.ext_getElem? fun p => ?_
        rw [List.getElem?_drop, List.getElem?_drop]
        by_cases h20 : (20 - postF n).toNat + p < 20
        · false_or_by_contra
          rename_i hc
          have := (h _ h20 hc).2
          omega
        · exact beyond _ h20
  · constructor
    · rintro rfl p _ h
      exact h rfl
    · intro h
      refine Str.ext' (Array.toList_inj.mp (List.ext_getElem? fun p => ?_))
      by_cases h20 : p < 20
      · exact Classical.not_not.mp (h p h20)
      · exact beyond p h20
/-- the plain law -/
theorem law_nat (a0 a1 b0 b1 : Nat) (n : Int) (h1 : -1 ≤ n) (h2 : n < 22) :
    cramF (joinF (fm b0) (fm b1)) n = cramF (joinF (fm a0) (fm a1)) n ↔ n < leastF (flatI (plL a0 a1 b0 b1) plF 2) := by
  have hm := places_mem a0 a1 b0 b1
  rw [least_iff (places_sorted a0 a1 b0 b1) (fun p hp => by obtain ⟨q, hq, rfl, _⟩ := (hm p).mp hp; omega) n h1 h2]
  rw [cram_iff (joinF_len (fm_len _) (fm_len _)) (joinF_len (fm_len _) (fm_len _)) n h1 h2]
  rw [codes2_is, codes2_is]
  split
  · constructor
    · intro h z hz
      obtain ⟨p, hp, rfl, hne⟩ := (hm z).mp hz
      exact h p hp (Ne.symm hne)
    · intro h p hp hne
      exact h p ((hm p).mpr ⟨p, hp, rfl, Ne.symm hne⟩)
  · constructor
    · intro h
      refine List.eq_nil_iff_forall_not_mem.mpr fun z hz => ?_
      obtain ⟨p, hp, rfl, hne⟩ := (hm z).mp hz
      exact h p hp (Ne.symm hne)
    · intro h p hp hne
      have := (hm p).mpr ⟨p, hp, rfl, Ne.symm hne⟩
      rw [h] at this
      cases this
theorem law_int {a0 a1 b0 b1 : Int} (h0 : 0 ≤ a0) (h1 : 0 ≤ a1) (h2 : 0 ≤ b0) (h3 : 0 ≤ b1) :
    (∀ n : Int, -1 ≤ n → n < 22 → (cramF (joinF (fm b0) (fm b1)) n = cramF (joinF (fm a0) (fm a1)) n ↔ n < leastF (flatI (plL a0 a1 b0 b1) plF 2))) ∧ 0 ≤ leastF (flatI (plL a0 a1 b0 b1) plF 2) ∧ leastF (flatI (plL a0 a1 b0 b1) plF 2) ≤ 22 := by
  obtain ⟨a0, rfl⟩ := Int.eq_ofNat_of_zero_le h0
  obtain ⟨a1, rfl⟩ := Int.eq_ofNat_of_zero_le h1
  obtain ⟨b0, rfl⟩ := Int.eq_ofNat_of_zero_le h2
  obtain ⟨b1, rfl⟩ := Int.eq_ofNat_of_zero_le h3
  exact ⟨law_nat a0 a1 b0 b1, least_bounds a0 a1 b0 b1⟩
end Mine

/-! S3 -/
namespace Mine
set_option Elab.async false
set_option linter.unusedVariables false
abbrev modeF (k' : Int) : Int := k'.fmod 16 * 4096 + (k'.fdiv 16).fmod 4096 + (k'.fdiv 65536).fmod 65536 * 65536
theorem modeF_bound (k : Int) : 0 ≤ modeF k ∧ modeF k < 2 ^ 32 := by
  have h1 := Int.fmod_nonneg_of_pos k (show (0 : Int) < 16 by decide)
  have h2 := Int.fmod_lt_of_pos k (show (0 : Int) < 16 by decide)
  have h3 := Int.fmod_nonneg_of_pos (k.fdiv 16) (show (0 : Int) < 4096 by decide)
  have h4 := Int.fmod_lt_of_pos (k.fdiv 16) (show (0 : Int) < 4096 by decide)
  have h5 := Int.fmod_nonneg_of_pos (k.fdiv 65536) (show (0 : Int) < 65536 by decide)
  have h6 := Int.fmod_lt_of_pos (k.fdiv 65536) (show (0 : Int) < 65536 by decide)
  unfold modeF
  omega
theorem take_two (n : List Int) : ∃ x y, List.take 2 (List.take 2 (List.take 6 n) ++ [40664, 119]) = [x, y] := by
  match n with
  | [] => exact ⟨_, _, rfl⟩
  | [x] => exact ⟨_, _, rfl⟩
  | x :: y :: r => exact ⟨x, y, by simp⟩
theorem ints_two {ys : List Value} {n : List Int} (h : IntsAre ys (List.map (fun k' => k'.fmod 16 * 4096 + (k'.fdiv 16).fmod 4096 + (k'.fdiv 65536).fmod 65536 * 65536) (List.take 2 (List.take 2 (List.take 6 n) ++ [40664, 119])))) :
    ∃ a0 a1 ta0 ta1, ys = [.int a0 ta0, .int a1 ta1] ∧ (0 ≤ a0 ∧ a0 < 2 ^ 32) ∧ (0 ≤ a1 ∧ a1 < 2 ^ 32) := by
  obtain ⟨x, y, e⟩ := take_two n
  rw [e] at h
  simp only [List.map_cons, List.map_nil] at h
  cases h with
  | cons _ t0 h =>
    cases h with
    | cons _ t1 h =>
      cases h
      exact ⟨_, _, t0, t1, rfl, modeF_bound x, modeF_bound y⟩
section
variable {w : World} {loose : List Str} {mean : ExcName → Option Value} {mg mb : Str → Option Value} {dp un : Nat} {gd : Option (List Code)} {cn : Str} {cs : Scope} {a : Addr} {ccd : Value} {cl : List (Str × Addr)} {outer : List Env} {A₀ : Around} {base h₀ : Heap} {L : Addr} {m : Str → Option Value} {s : Shared} {Q E : Value → Shared → Prop} {news : List (Addr × Obj)}
theorem states_law {D lt c1 c2 c3 : Addr} {ys ws : List Value} {n ns : List Int} {kl : Nat} {o113 o1 o2 o3 : Obj}
    (B : Below A₀ base outer h₀) (F : Fr h₀ L s.heap m) (X : (hd.heap_39 w.params).In h₀) (T : Top topProg loose mean mg mb h₀) (N : News h₀ L s.heap news) (hk : cs.kind = .function)
    (hI8 : IntsAre ys (List.map (fun k' => k'.fmod 16 * 4096 + (k'.fdiv 16).fmod 4096 + (k'.fdiv 65536).fmod 65536 * 65536) (List.take 2 (List.take 2 (List.take 6 n) ++ [40664, 119]))))
    (hI : IntsAre ws ns) (hns : 0 < ns.length ∧ ns.length ≤ 1000)
    (m1 : (D, LCg.lst ys) ∈ news) (m2 : (lt, W.listOf ws.toArray kl) ∈ news) (m3 : (113, o113) ∈ news) (mc3 : (c3, o3) ∈ news) (mc2 : (c2, o2) ∈ news) (mc1 : (c1, o1) ∈ news)
    (d1 : D ≠ 113) (d2 : lt ≠ 113) (d3 : D ≠ lt) (e1 : c1 ≠ D ∧ c1 ≠ lt ∧ c1 ≠ 113) (e2 : c2 ≠ D ∧ c2 ≠ lt ∧ c2 ≠ 113) (e3 : c3 ≠ D ∧ c3 ≠ lt ∧ c3 ≠ 113)
    (hdp : dp + 30 < 1000) (hun : un + 400 < 9900)
    (hret : ∀ S (q : Rec) (tl : List Rec) (rest : List (Addr × Obj)) a0 a1 ta0 ta1 kS h' tk', (0 ≤ a0 ∧ a0 < 2 ^ 32) → (0 ≤ a1 ∧ a1 < 2 ^ 32) → rest = (q :: tl).flatMap Rec.objs → Fr h₀ L h' m →
      News h₀ L h' ((S, W.listOf (Value.ref q.ls :: tl.map (fun q => Value.ref q.ls)).toArray kS) :: (q.ls, W.listOf #[.ref q.lm, .ref q.lr] q.k1) :: (q.lr, W.listOf #[.str (fm a0) q.u0, .str (fm a1) q.u1] q.k3) :: (D, W.listOf #[.int a0 ta0, .int a1 ta1] 2) :: (113, o113) :: (c3, o3) :: (c2, o2) :: (c1, o1) :: rest) →
      (∀ q' ∈ q :: tl, q'.Ok) → tl.length ≤ 1000 → OwnOff rest [c3, c2, c1] → @Ne Nat S 113 → (@Ne Nat S c3 ∧ @Ne Nat S c2 ∧ @Ne Nat S c1) → (@Ne Nat q.ls c3 ∧ @Ne Nat q.ls c2 ∧ @Ne Nat q.ls c1) → (@Ne Nat q.lr c3 ∧ @Ne Nat q.lr c2 ∧ @Ne Nat q.lr c1) → Q (.ref S) { s with heap := h', toks := tk' }) :
    wpAny (model PySem.Challenge.rw_mq0191_01.row.prog w) (ktrTop dp un gd cn cs L a ccd cl outer) (call (.ref 94) [.ref D, .ref lt]) Q E s := by
  obtain ⟨a0, a1, ta0, ta1, rfl, hA0, hA1⟩ := ints_two hI8
  refine wpAny_noRaise (states_ok w loose mean mg mb D lt a0 a1 ta0 ta1 2 kl ws ns hI dp un gd cn cs a ccd cl outer A₀ base h₀ L m s Q B F X T hk o113 ⟨d1, d2⟩ d3 hA0 hA1 hns.2 ?_ hdp hun ?_)
  · intro p hp
    simp only [List.mem_cons, List.not_mem_nil, or_false] at hp
    rcases hp with rfl | rfl | rfl
    · exact N _ m1
    · exact N _ m2
    · exact N _ m3
  · intro S rs r kS h' tk' F' keep N' fresh J
    have G := N.grown keep
    cases rs with
    | nil => exact absurd J.len (by simp only [List.length_nil]; omega)
    | cons q qs =>
      obtain ⟨hq1, hq2, hq3⟩ := J.head q rfl
      subst hq2 hq3
      have hall : ∀ p ∈ (q :: (qs ++ [r])).flatMap Rec.objs, p ∈ ((S, W.listOf ((q :: qs).map (fun q => Value.ref q.ls) ++ [Value.ref r.ls]).toArray kS) :: (r.ls, W.listOf #[.ref r.lm, .ref r.lr] r.k1) :: (r.lm, W.listOf #[.int r.b0 r.t0, .int r.b1 r.t1] r.k2) :: (r.lr, W.listOf #[.str (fm r.b0) r.u0, .str (fm r.b1) r.u1] r.k3) :: (113, o113) :: (q :: qs).flatMap Rec.objs) := by
        intro p hp
        rw [← List.cons_append, List.flatMap_append] at hp
        rcases List.mem_append.mp hp with hp | hp
        · exact .tail _ (.tail _ (.tail _ (.tail _ (.tail _ hp))))
        · simp only [List.flatMap_cons, List.flatMap_nil, List.append_nil, Rec.objs, List.mem_cons, List.not_mem_nil, or_false] at hp
          rcases hp with rfl | rfl | rfl
          · exact .tail _ (.head _)
          · exact .tail _ (.tail _ (.head _))
          · exact .tail _ (.tail _ (.tail _ (.head _)))
      have hqo : ∀ p ∈ q.objs, p ∈ (q :: (qs ++ [r])).flatMap Rec.objs := fun p hp => List.mem_flatMap.mpr ⟨q, .head _, hp⟩
      have off : ∀ c o, (c, o) ∈ news → c ≠ D → c ≠ lt → c ≠ 113 → ∀ p ∈ ((S, W.listOf ((q :: qs).map (fun q => Value.ref q.ls) ++ [Value.ref r.ls]).toArray kS) :: (r.ls, W.listOf #[.ref r.lm, .ref r.lr] r.k1) :: (r.lm, W.listOf #[.int r.b0 r.t0, .int r.b1 r.t1] r.k2) :: (r.lr, W.listOf #[.str (fm r.b0) r.u0, .str (fm r.b1) r.u1] r.k3) :: (113, o113) :: (q :: qs).flatMap Rec.objs), p.1 ≠ c := by
        intro c o hc x1 x2 x3 p hp e
        rcases fresh p hp with f | f | f | f
        · have := (N _ hc).1
          rw [← e] at this
          rw [this] at f
          cases f
        · exact x1 (e.symm.trans f)
        · exact x2 (e.symm.trans f)
        · exact x3 (e.symm.trans f)
      have o1' := off c1 o1 mc1 e1.1 e1.2.1 e1.2.2
      have o2' := off c2 o2 mc2 e2.1 e2.2.1 e2.2.2
      have o3' := off c3 o3 mc3 e3.1 e3.2.1 e3.2.2
      have q1 := hall _ (hqo (q.ls, W.listOf #[.ref q.lm, .ref q.lr] q.k1) (.head _))
      have q3 := hall _ (hqo (q.lr, W.listOf #[.str (fm q.b0) q.u0, .str (fm q.b1) q.u1] q.k3) (.tail _ (.tail _ (.head _))))
      refine hret S q (qs ++ [r]) _ q.b0 q.b1 ta0 ta1 kS h' tk' hA0 hA1 rfl F' ?_ ?_ ?_ ?_ J.offr.2.2.2 ⟨o3' _ (.head _), o2' _ (.head _), o1' _ (.head _)⟩ ⟨o3' _ q1, o2' _ q1, o1' _ q1⟩ ⟨o3' _ q3, o2' _ q3, o1' _ q3⟩
      · intro p hp
        simp only [List.mem_cons] at hp
        rcases hp with rfl | rfl | rfl | rfl | rfl | rfl | rfl | rfl | hp
        · have := N' _ (.head _)
          simpa using this
        · exact N' _ q1
        · exact N' _ q3
        · exact G _ m1
        · exact G _ m3
        · exact G _ mc3
        · exact G _ mc2
        · exact G _ mc1
        · exact N' _ (hall _ hp)
      · intro q' hq'
        exact J.ok q' (by simpa using hq')
      · have := J.len
        simp only [List.length_cons, List.length_append, List.length_nil] at this ⊢
        omega
      · intro p hp b hb
        simp only [List.mem_cons, List.not_mem_nil, or_false] at hb
        rcases hb with rfl | rfl | rfl
        · exact o3' _ (hall _ hp)
        · exact o2' _ (hall _ hp)
        · exact o1' _ (hall _ hp)
end
end Mine

/-! W0 -/
namespace Mine
set_option Elab.async false
set_option linter.unusedVariables false
set_option linter.unusedSimpArgs false
/-- the ledger of the last comprehension's turns -/
def LawJ (p1 p2 p3 p4 p5 p6 : Addr × Obj) (rest news : List (Addr × Obj)) : Prop := ∃ ps led, TabIn ps led ∧ news = p1 :: p2 :: p3 :: p4 :: p5 :: p6 :: (113, tabObj ps) :: (led ++ rest)
theorem law_led {h₀ h : Heap} {L : Addr} {p1 p2 p3 p4 p5 p6 p7 q1 q2 : Addr × Obj} {rest : List (Addr × Obj)} (N : News h₀ L h (p1 :: p2 :: q1 :: q2 :: p3 :: p7 :: p4 :: p5 :: p6 :: rest)) : News h₀ L h (p1 :: p2 :: p3 :: p4 :: p5 :: p6 :: p7 :: rest) := by
  intro p hp
  refine N p ?_
  simp only [List.mem_cons] at hp ⊢
  rcases hp with h | h | h | h | h | h | h | h <;> simp only [h, true_or, or_true]
/-- what a turn of the last comprehension leaves -/
def TurnEnd (h₀ : Heap) (L : Addr) (m : Str → Option Value) (s : Shared) (h : Heap) (led : List (Addr × Obj)) (ok : Bool) (s' : Shared) : Prop :=
  ok = false ∧ ∃ h' tk', s' = { s with heap := h', toks := tk' } ∧ Fr h₀ L h' m ∧ (∀ b o, b ≠ 113 → h.get? b = some o → h'.get? b = some o) ∧
    ∃ ps' led', News h₀ L h' ((113, tabObj ps') :: led') ∧ TabIn ps' led' ∧ ∀ p ∈ led', p ∈ led ∨ h.get? p.1 = none
theorem TurnEnd.intro {h₀ h h' : Heap} {L : Addr} {m : Str → Option Value} {s : Shared} {led : List (Addr × Obj)} {tk' : Nat} {ok : Bool} (e : ok = false) (F : Fr h₀ L h' m) (k : ∀ b o, b ≠ 113 → h.get? b = some o → h'.get? b = some o)
    (x : ∃ ps' led', News h₀ L h' ((113, tabObj ps') :: led') ∧ TabIn ps' led' ∧ ∀ p ∈ led', p ∈ led ∨ h.get? p.1 = none) : TurnEnd h₀ L m s h led ok { s with heap := h', toks := tk' } := ⟨e, h', tk', rfl, F, k, x⟩
section
variable {prog : Program} {w : World} {A : Around} {s : Shared} {h₀ : Heap} {L : Addr} {m : Str → Option Value} {env : Env} {ct elt : Expr} {x : Str} {scope : Scope} {cl : List (Str × Addr)} {P : Nat → Value → Prop} {Fin : List Value → List (Addr × Obj) → Prop}
theorem rest_none {p1 p3 p4 p5 p6 : Addr × Obj} {ax : Addr} {its : Array Value} {kk : Nat} {rest : List (Addr × Obj)}
    (hp : p1.1 ≠ 113 ∧ ax ≠ 113 ∧ p3.1 ≠ 113 ∧ p4.1 ≠ 113 ∧ p5.1 ≠ 113 ∧ p6.1 ≠ 113) (hrest : ∀ p ∈ rest, p.1 ≠ 113)
    (turn : ∀ i v I oI C oC D m₂ h tk (E' : Value → Shared → Prop) ps led tail, TabIn ps led → tail = led ++ rest → P i v → LCg.NsObj oC m₂ → m₂ x = some v → Fr h₀ L h m → News h₀ L h ((I, oI) :: (C, oC) :: (D, LCg.lst []) :: p1 :: (ax, W.listOf its kk) :: p3 :: p4 :: p5 :: p6 :: (113, tabObj ps) :: tail) →
      LCg.Off3 I C D (p1 :: (ax, W.listOf its kk) :: p3 :: p4 :: p5 :: p6 :: (113, tabObj ps) :: tail) → (p1.1 ≠ 113 ∧ p3.1 ≠ 113) → ((@Ne Nat I C) ∧ (@Ne Nat I D) ∧ (@Ne Nat C D)) →
      wpAny (model prog w) A (isTrue ct (compEnvC scope cl C env) (eval ct (compEnvC scope cl C env))) (TurnEnd h₀ L m s h led) E' { s with heap := h, toks := tk })
    (fin : ∀ ps led tail, TabIn ps led → Fin [] (p1 :: (ax, W.listOf its kk) :: p3 :: p4 :: p5 :: p6 :: (113, tabObj ps) :: tail)) :
    ∀ k i news, LawJ p1 (ax, W.listOf its kk) p3 p4 p5 p6 rest news → LCt.CompRestT prog w A h₀ L m env ct elt x scope cl s (LCg.SrcAt h₀ ax its) P Fin k i [] news := by
  intro k
  induction k with
  | zero =>
    rintro i news ⟨ps, led, hT, rfl⟩
    exact LCt.CompRestT.zero (fin ps led _ hT)
  | succ k ih =>
    rintro i news ⟨ps, led, hT, rfl⟩
    refine LCt.CompRestT.succ ?_
    intro v I oI C oC D m₂ h tk E' hv hC hx F N off ne
    refine wpAny_mono (turn i v I oI C oC D m₂ h tk E' ps led _ hT rfl hv hC hx F N off ⟨hp.1, hp.2.2.1⟩ ne) (fun ok s' hq => ?_) fun _ _ e => e
    obtain ⟨rfl, h', tk', rfl, F', keep, ps', led', N', hT', hnew⟩ := hq
    simp only [Bool.false_eq_true, if_false]
    have om := off.mem
    have h113 := om (113, tabObj ps) (.tail _ (.tail _ (.tail _ (.tail _ (.tail _ (.tail _ (.head _)))))))
    have old : ∀ p ∈ ((I, oI) :: (C, oC) :: (D, LCg.lst []) :: p1 :: (ax, W.listOf its kk) :: p3 :: p4 :: p5 :: p6 :: (113, tabObj ps) :: (led ++ rest)), p.1 ≠ 113 → h'.get? p.1 = some p.2 ∧ p.1 ≠ L ∧ h₀.get? p.1 = none :=
      fun p hm hne => ⟨keep _ _ hne (N p hm).1, (N p hm).2⟩
    refine ⟨h', tk', p1 :: (ax, W.listOf its kk) :: p3 :: p4 :: p5 :: p6 :: (113, tabObj ps') :: (led' ++ rest), rfl, F', ?_, ?_, .inr ⟨_, .tail _ (.head _), rfl, _, rfl⟩, ih _ _ ⟨ps', led', hT', rfl⟩⟩
    · intro p hm
      rcases List.mem_cons.mp hm with rfl | hm
      · exact old _ (.head _) (Ne.symm h113.1)
      rcases List.mem_cons.mp hm with rfl | hm
      · exact old _ (.tail _ (.head _)) (Ne.symm h113.2.1)
      rcases List.mem_cons.mp hm with rfl | hm
      · exact old _ (.tail _ (.tail _ (.head _))) (Ne.symm h113.2.2)
      rcases List.mem_cons.mp hm with rfl | hm
      · exact old _ (.tail _ (.tail _ (.tail _ (.head _)))) hp.1
      rcases List.mem_cons.mp hm with rfl | hm
      · exact old _ (.tail _ (.tail _ (.tail _ (.tail _ (.head _))))) hp.2.1
      rcases List.mem_cons.mp hm with rfl | hm
      · exact old _ (.tail _ (.tail _ (.tail _ (.tail _ (.tail _ (.head _)))))) hp.2.2.1
      rcases List.mem_cons.mp hm with rfl | hm
      · exact old _ (.tail _ (.tail _ (.tail _ (.tail _ (.tail _ (.tail _ (.head _))))))) hp.2.2.2.1
      rcases List.mem_cons.mp hm with rfl | hm
      · exact old _ (.tail _ (.tail _ (.tail _ (.tail _ (.tail _ (.tail _ (.tail _ (.head _)))))))) hp.2.2.2.2.1
      rcases List.mem_cons.mp hm with rfl | hm
      · exact old _ (.tail _ (.tail _ (.tail _ (.tail _ (.tail _ (.tail _ (.tail _ (.tail _ (.head _))))))))) hp.2.2.2.2.2
      rcases List.mem_cons.mp hm with rfl | hm
      · exact N' _ (.head _)
      rcases List.mem_append.mp hm with hm | hm
      · exact N' _ (.tail _ hm)
      · exact old _ (.tail _ (.tail _ (.tail _ (.tail _ (.tail _ (.tail _ (.tail _ (.tail _ (.tail _ (.tail _ (List.mem_append.mpr (.inr hm)))))))))))) (hrest _ hm)
    · refine LCg.Off3.of fun p hm => ?_
      have sub : p ∈ (p1 :: (ax, W.listOf its kk) :: p3 :: p4 :: p5 :: p6 :: (113, tabObj ps) :: (led ++ rest)) ∨ p.1 = 113 ∨ p ∈ led' := by
        simp only [List.mem_cons, List.mem_append] at hm ⊢
        rcases hm with h | h | h | h | h | h | h | h | h
        · simp only [h, true_or, or_true]
        · simp only [h, true_or, or_true]
        · simp only [h, true_or, or_true]
        · simp only [h, true_or, or_true]
        · simp only [h, true_or, or_true]
        · simp only [h, true_or, or_true]
        · exact .inr (.inl (by rw [h]))
        · exact .inr (.inr h)
        · simp only [h, true_or, or_true]
      rcases sub with hm | e | hm
      · exact om p hm
      · rw [e]; exact h113
      · rcases hnew p hm with q | q
        · exact om p (.tail _ (.tail _ (.tail _ (.tail _ (.tail _ (.tail _ (.tail _ (List.mem_append.mpr (.inl q)))))))))
        · refine ⟨fun e => ?_, fun e => ?_, fun e => ?_⟩
          · have := (N (I, oI) (.head _)).1
            rw [← e, q] at this; cases this
          · have := (N (C, oC) (.tail _ (.head _))).1
            rw [← e, q] at this; cases this
          · have := (N (D, LCg.lst []) (.tail _ (.tail _ (.head _)))).1
            rw [← e, q] at this; cases this
end
theorem strs_at {vs : List Value} {ss : List Str} (h : StrsAre vs ss) : ∀ (i : Nat) (c : Str), ss[i]? = some c → ∃ t : Tok, vs[i]? = some (Value.str c t) := by
  induction h with
  | nil => intro i c h; simp at h
  | cons x t r ih =>
    intro i c h
    cases i with
    | zero =>
      simp at h
      subst h
      exact ⟨t, rfl⟩
    | succ i =>
      obtain ⟨t', e⟩ := ih i c (by simpa using h)
      exact ⟨t', by simpa using e⟩
theorem cram_list {ys : List Value} {g : Int → Str} (h : CarriedAll ys ((rangeKs (-1) (22 - -1 : Int).toNat).map fun k => PyData.str (g k))) : ∀ i, i < 23 → ∃ t, ys[i]? = some (.str (g (-1 + (i : Int))) t) := by
  intro i hi
  refine strs_at (CarriedAll.strsOf h) i _ ?_
  have e : (22 - -1 : Int).toNat = 23 := rfl
  rw [e]
  unfold rangeKs
  simp [hi]
theorem rec_at {q : Rec} {tl : List Rec} {i : Nat} {v : Value} (h : (Value.ref q.ls :: tl.map (fun q => Value.ref q.ls)).toArray[i]? = some v) : ∃ q' ∈ q :: tl, v = .ref q'.ls := by
  have h' : ((q :: tl).map (fun q => Value.ref q.ls))[i]? = some v := by simpa using h
  rw [List.getElem?_map] at h'
  cases e : (q :: tl)[i]? with
  | none => rw [e] at h'; cases h'
  | some q' =>
    rw [e] at h'
    exact ⟨q', List.mem_of_getElem? e, (Option.some.inj h').symm⟩
section
variable {w : World} {loose : List Str} {mean : ExcName → Option Value} {mg mb : Str → Option Value} {dp un : Nat} {gd : Option (List Code)} {cn : Str} {cs : Scope} {a : Addr} {ccd : Value} {cl : List (Str × Addr)} {outer : List Env} {A₀ : Around} {base h₀ : Heap} {L : Addr} {m : Str → Option Value} {s : Shared} {Q E : Value → Shared → Prop} {all : List (Addr × Obj)}
theorem right_use {q' : Rec} {lf lc : Addr} {ys : List Value} {a0 a1 : Int} {ta0 ta1 : Tok} {ps : Array Value} {led : List (Addr × Obj)}
    (B : Below A₀ base outer h₀) (F : Fr h₀ L s.heap m) (X : (hd.heap_39 w.params).In h₀) (T : Top topProg loose mean mg mb h₀) (N : News h₀ L s.heap all) (hk : cs.kind = .function)
    (hT : TabIn ps led) (mlf : (lf, W.listOf #[.int a0 ta0, .int a1 ta1] 2) ∈ all) (mlc : (lc, LCg.lst ys) ∈ all) (m113 : (113, tabObj ps) ∈ all) (mq : ∀ p ∈ q'.objs, p ∈ all) (mled : ∀ p ∈ led, p ∈ all)
    (hcr : CarriedAll ys ((rangeKs (-1) (22 - -1 : Int).toNat).map fun k => PyData.str (cramF (joinF (fm a0) (fm a1)) k)))
    (hA0 : 0 ≤ a0 ∧ a0 < 2 ^ 32) (hA1 : 0 ≤ a1 ∧ a1 < 2 ^ 32) (hok : q'.Ok) (nlf : lf ≠ 113) (nlc : lc ≠ 113) (hdp : dp + 30 < 1000) (hun : un + 400 < 9900)
    (hret : ∀ h' tk', Fr h₀ L h' m → (∀ b o, b ≠ 113 → s.heap.get? b = some o → h'.get? b = some o) → (∃ ps' led', News h₀ L h' ((113, tabObj ps') :: led') ∧ TabIn ps' led' ∧ ∀ p ∈ led', p ∈ led ∨ s.heap.get? p.1 = none) → Q (.bool true) { s with heap := h', toks := tk' }) :
    wpAny (model PySem.Challenge.rw_mq0191_01.row.prog w) (ktrTop dp un gd cn cs L a ccd cl outer) (call (.ref 118) [.ref lf, .ref lc, .ref q'.ls]) Q E s := by
  have lw := law_int hA0.1 hA1.1 hok.2.1.1 hok.2.2.1
  refine wpAny_noRaise (right_ok w loose mean mg mb lf lc q'.ls q'.lm q'.lr a0 a1 q'.b0 q'.b1 ta0 ta1 q'.t0 q'.t1 2 ys.length q'.k1 q'.k2 q'.k3 (fm q'.b0) (fm q'.b1) q'.u0 q'.u1 ys (joinF (fm a0) (fm a1)) (cram_list hcr) lw.1 ps led hT
    dp un gd cn cs a ccd cl outer A₀ base h₀ L m s Q B F X T hk ⟨nlf, nlc, hok.1⟩ (fm_len _) (fm_len _) ?_ lw.2.1 lw.2.2 hdp hun hret)
  intro p hp
  rcases List.mem_append.mp hp with hp | hp
  · simp only [List.mem_cons, List.not_mem_nil, or_false] at hp
    rcases hp with rfl | rfl | rfl | rfl | rfl | rfl
    · exact N _ mlf
    · exact N _ mlc
    · exact N _ (mq _ (.head _))
    · exact N _ (mq _ (.tail _ (.head _)))
    · exact N _ (mq _ (.tail _ (.tail _ (.head _))))
    · exact N _ m113
  · exact N _ (mled _ hp)
end
theorem rest_ne {all : List Rec} (hok : ∀ q ∈ all, q.Ok) : ∀ p ∈ all.flatMap Rec.objs, p.1 ≠ 113 := by
  intro p hp
  obtain ⟨q, hq, hp⟩ := List.mem_flatMap.mp hp
  have := (hok q hq).1
  simp only [Rec.objs, List.mem_cons, List.not_mem_nil, or_false] at hp
  rcases hp with rfl | rfl | rfl
  · exact this.1
  · exact this.2.1
  · exact this.2.2
end Mine

/-! W1 -/
namespace Mine
set_option Elab.async false
set_option linter.unusedVariables false
local macro_rules | `(tactic| k_room) => `(tactic| ((try simp only [depth_under_make, depth_under_kw, depth_in1, depth_deeper, depth_caller, recursionLimit]); omega))
local macro_rules | `(tactic| walk_at "MINE dp") => `(tactic| ((try simp only [depth_under_make, depth_under_kw, depth_in1, depth_deeper, depth_caller, Around.deeper_units, units_caller]); omega))
local macro_rules | `(tactic| walk_at "call ref") => `(tactic| (k_here; (with_reducible show wpAny _ _ (call (Value.ref 94) _) _ _ _); refine Stop.out ?_))
local macro_rules | `(tactic| walk_at "call ref") => `(tactic| (k_here; (with_reducible show wpAny _ _ (call (Value.ref 21) [Value.str _ _, Value.int _ _]) _ _ _); k_dflt (refine' cram_use ?k1 ?k2 ?k3 ?k4 ?k5 ?k6 ?k7 ?k8 ?k9 ?_; (case k1 => k_asm); (case k2 => k_asm); (case k3 => k_asm); (case k4 => k_asm); (case k5 => k_asm); (case k6 => first | exact rfl | assumption); (case k7 => walk_at "MINE dp"); (case k8 => walk_at "MINE dp"); (case k9 => assumption); k_whole); intro t9 h9 tk9 F9 N9; (try dsimp only); (try k_sweep); (try k_fold)))
local macro_rules | `(tactic| walk_at "call builtin:str.join") => `(tactic| (k_here; (show wpAny _ _ (call (Value.builtin "str.join") [Value.str _ _, Value.ref _]) _ _ _); k_dflt (refine' join2_K ?k1 ?k2 ?k3 ?k4 ?_; (case k1 => k_asm); (case k2 => k_mem); (case k3 => exact fm_len _); (case k4 => exact fm_len _); k_whole); intro t9 k9))
local macro_rules | `(tactic| walk_at "subscriptTail") => `(tactic| (k_here; k_dflt (first
  | ((with_reducible show wpAny _ _ (subscriptTail _ _ (Value.ref _) (Value.int 1 _)) _ _ _); refine' Mine.item_at (i := 1) ?k1 ?k2 ?k3 ?k4 ?_ ?k5; (case k2 => exact rfl); (case k1 => exact News.isList (by k_asm) (by k_mem)); (case k4 => exact rfl); (case k3 => decide); (case k5 => with_unfolding_all rfl); k_whole)
  | ((with_reducible show wpAny _ _ (subscriptTail _ _ (Value.ref _) (Value.int 0 _)) _ _ _); refine' Mine.item_at (i := 0) ?k1 ?k2 ?k3 ?k4 ?_ ?k5; (case k2 => exact rfl); (case k1 => exact News.isList (by k_asm) (by k_mem)); (case k4 => exact rfl); (case k3 => decide); (case k5 => with_unfolding_all rfl); k_whole))))
local macro_rules | `(tactic| walk_at "CompSrc") => `(tactic| ((rename (Str.length (joinF _ _) = 20) => hGate9); refine Stop.out ?_))
local macro_rules | `(tactic| walk_at "CompSrcT") => `(tactic| refine Stop.out ?_)
local macro_rules | `(tactic| walk_at "call ref") => `(tactic| (k_here; (with_reducible show wpAny _ _ (call (Value.ref 118) _) _ _ _); refine Stop.out ?_))
local macro_rules | `(tactic| walk_at "eval ListComp") => `(tactic| ((rename (Stop True) => hGate9); refine Stop.out ?_))
set_option maxRecDepth 100000 in
set_option maxHeartbeats 8000000 in
theorem the_law : PySem.Challenge.rw_mq0191_01.Holds := hd (by
  k_go0
  (all_goals try k_fold)
  k_steps
  refine unstop ?_
  refine' states_law ?b1 ?b2 ?b3 ?b4 ?b5 ?b6 ?b7 ?b8 ?b9 ?m1 ?m2 ?m3 ?mc3 ?mc2 ?mc1 ?d1 ?d2 ?d3 ?e1 ?e2 ?e3 ?f1 ?f2 ?_
  case b1 => k_asm
  case b2 => k_asm
  case b3 => k_asm
  case b4 => k_asm
  case b5 => k_asm
  case b6 => exact rfl
  case b7 => assumption
  case b8 => assumption
  case m1 => k_mem
  case m2 => k_mem
  case m3 => k_mem
  case mc3 => exact .tail _ (.tail _ (.tail _ (.tail _ (.tail _ (.tail _ (.tail _ (.tail _ (.tail _ (.head _)))))))))
  case mc2 => exact .tail _ (.tail _ (.tail _ (.tail _ (.tail _ (.tail _ (.tail _ (.tail _ (.tail _ (.tail _ (.head _))))))))))
  case mc1 => exact .tail _ (.tail _ (.tail _ (.tail _ (.tail _ (.tail _ (.tail _ (.tail _ (.tail _ (.tail _ (.tail _ (.head _)))))))))))
  case b9 => simp only [List.length_append, List.length_cons, List.length_nil, List.length_drop, List.length_take]; omega
  case d1 => k_ne
  case d2 => k_ne
  case d3 => k_ne
  case e1 => exact ⟨by k_ne, by k_ne, by k_ne⟩
  case e2 => exact ⟨by k_ne, by k_ne, by k_ne⟩
  case e3 => exact ⟨by k_ne, by k_ne, by k_ne⟩
  case f1 => decide
  case f2 => decide
  intro S q tl rest a0 a1 ta0 ta1 kS h3 tk3 hA0 hA1 hrest F3 N3 hok htl hoff hS113 hS hq1 hq2
  repeat (rename (IntsAre _ _) => hj; clear hj)
  have h20 : (joinF (fm a0) (fm a1)).length = 20 := joinF_len (fm_len _) (fm_len _)
  k_steps
  refine unstop ?_
  refine LCg.CompSrc.range (by rfl) (by k_asm) (by k_asm) (by assumption) (by decide) (by exact rangeSize_nat _ _) (by exact Nat.le_of_ble_eq_true rfl) ?_
  intro g'
  refine' kct_range (fun k => cramF (joinF (fm a0) (fm a1)) k) (fun k' t' I' oI' C' oC' D' m' ys' h' tk' E' hlo' hhi' hC' hx' F' N' off' ne' mk' => ?_) ?_
  · have off0 := off'
    simp only [LCg.Off3] at off'
    k_steps
    exact LCg.CompEnd.intro (by assumption) (by assumption) _ (fun p hp => hp) off0 trivial ⟨rfl, _, rfl⟩
  · unfold KPfDone
    intro ys hcr hlen
    have hMk : Stop True := trivial
    k_steps
    refine unstop ?_
    refine LCt.ListComp_T (F₀ := by k_asm) (by with_unfolding_all rfl) (by decide) (by rfl) (by decide) (by rfl) ?_
    k_steps
    refine unstop ?_
    rename Fr _ _ _ _ => F5
    rename News _ _ _ _ => N5
    have hsz : (Value.ref q.ls :: List.map (fun q => Value.ref q.ls) tl).toArray.size ≤ sizeLine := by
      simp only [List.size_toArray, List.length_cons, List.length_map, sizeLine_eq]
      omega
    refine LCt.CompSrcT.ledger (by rfl) F5 (law_led N5) (.tail _ (.head _)) hsz ?_
    intro g5
    have hrestne : ∀ p ∈ rest, p.1 ≠ 113 := by rw [hrest]; exact rest_ne hok
    refine rest_none ⟨?p1, hS113, ?p3, ?p4, ?p5, ?p6⟩ hrestne ?turn ?fin _ _ _ ⟨#[], [], .inl ⟨rfl, rfl⟩, rfl⟩
    case p1 => k_ne
    case p3 => k_ne
    case p4 => k_ne
    case p5 => k_ne
    case p6 => k_ne
    case turn =>
      intro i v I oI C oC D m₂ h6 tk6 E6 ps led tail hT htail hv hC hx F6 N6 off6 hpn ne6
      obtain ⟨q', hq', rfl⟩ := rec_at hv
      simp only [LCg.Off3] at off6
      k_steps
      refine unstop ?_
      have hin : ∀ p ∈ q'.objs, p ∈ tail := fun p hp => by
        rw [htail, hrest]
        exact List.mem_append.mpr (.inr (List.mem_flatMap.mpr ⟨q', hq', hp⟩))
      have hin2 : ∀ p ∈ led, p ∈ tail := fun p hp => by
        rw [htail]
        exact List.mem_append.mpr (.inl hp)
      refine right_use (by k_asm) F6 (by k_asm) (by k_asm) N6 rfl hT (by k_mem) (by k_mem) (by k_mem) (fun p hp => .tail _ (.tail _ (.tail _ (.tail _ (.tail _ (.tail _ (.tail _ (.tail _ (.tail _ (.tail _ (hin p hp))))))))))) (fun p hp => .tail _ (.tail _ (.tail _ (.tail _ (.tail _ (.tail _ (.tail _ (.tail _ (.tail _ (.tail _ (hin2 p hp))))))))))) hcr hA0 hA1 (hok q' hq') hpn.2 hpn.1 (by decide) (by decide) ?_
      intro h7 tk7 F7 keep7 ex7
      clear N6 F6 off6 ne6 hpn
      k_steps
      exact TurnEnd.intro rfl F7 keep7 ex7
    case fin =>
      intro ps led tail hT
      k_steps)
end Mine

theorem PySem.Challenge.cw_mq0191_01_holds : PySem.Challenge.rw_mq0191_01.Holds :=
  Mine.the_law
