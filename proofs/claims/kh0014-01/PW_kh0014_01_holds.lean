import PyProof.Rows.All
import Wide.All
import OpenK.AllK
import Wide.FinOn
import Lean
import PySem.Challenge.RW_kh0014_01
set_option Elab.async false
set_option compiler.extract_closed false
local macro_rules | `(tactic| l_ints) => `(tactic| first | (with_reducible assumption) | (with_reducible exact PyProof.Rows.IntsAre.nil) | (with_reducible exact PyProof.Rows.IntsAre.cons _ _ (by l_ints)))

section
open PySem PySem.W PyProof.Rows
set_option Elab.async false
namespace Mine
set_option maxRecDepth 100000 in
theorem law_said : OpenLaw.wellSaid PySem.Challenge.rw_kh0014_01 = true := by kernel_rfl
section
local macro_rules | `(tactic| o_head $_) => `(tactic| contradiction)
set_option maxRecDepth 100000 in
set_option maxHeartbeats 8000000 in
theorem hd (no : False) : PySem.Challenge.rw_kh0014_01.row.Holds := by k_head
end
end Mine

end
namespace Mine
set_option maxRecDepth 100000 in
set_option maxHeartbeats 0 in
theorem fillAll : PySem.Challenge.rw_kh0014_01 = PySem.Challenge.rw_kh0014_01 ∧ hd.heap_1 = hd.heap_1 := by w_top off; k_fill; exact ⟨rfl, rfl⟩
end Mine

section
open PySem PySem.W PyProof.Rows PySem.Calls
open Sem (wp)
open AutoSeq1 (wpAny_loadPart')
set_option Elab.async false
set_option maxRecDepth 100000
namespace Mine
section
variable {prog : Program} {w : World} {A : Around} {E : Value → Shared → Prop} {s : Shared}

/-- an enumerate over an iterator: what it holds out, whether it was met again, its count, its last item -/
abbrev EnumFl (h : Heap) (e it : Addr) (held : Value) (fl : Bool) (i : Int) (old : Value) : Prop :=
  h.get? e = some { cls := .type "enumerate", dict := none, data := .fields #[held, .bool fl, .ref it, rawInt i, .none, old], slots := #[] }
abbrev EnumAt (h : Heap) (e it : Addr) (held : Value) (i : Int) (old : Value) : Prop := EnumFl h e it held false i old

theorem ifAlive {M : Model} {a : Addr} {Q : Option Obj → Shared → Prop} (h : Q (s.heap.get? a) s) : wpAny M A (loadIfAlive a) Q E s := fun Γ p _ => by
  show Sem.wp M Γ (.loadIfAlive a .pure) _ _ p s
  rw [Sem.wp_loadIfAlive]
  exact h

/-- the making of an enumerate over a tuple -/
theorem enumNew (l : Addr) (items : Array Value) (n : Nat) (dct : Option Addr) (sl : Array (Option Value)) :
    Meets (Builtin.«enumerate.__new__» ⟨[.type "enumerate", .ref l], []⟩) (fun _ R s => s.heap.get? l = some { cls := .type "tuple", dict := dct, data := .seq items n, slots := sl } ∧
      R (.ok (.ret (.ref (s.heap.push { cls := .type "tuple_iterator", data := .fields #[.ref l, .int 0 0] }).objs.size)))
        { s with heap := (s.heap.push { cls := .type "tuple_iterator", data := .fields #[.ref l, .int 0 0] }).push { cls := .type "enumerate", data := .fields #[.none, .bool false, .ref s.heap.objs.size, rawInt 0, .none, .none] } }) :=
  .of_wp fun prog w A R s h => by
    obtain ⟨hp, g, d, tk, os⟩ := s; obtain ⟨hl, h⟩ := h
    have hsub := sub_enumerate
    have hL : Heap.IsTuple (Shared.heap ⟨hp, g, d, tk, os⟩) l items := ⟨_, hl, rfl, n, rfl⟩
    wp_walk using wpAny_loadPart' hl
    refine wpAny_stack_any fun st => wpAny_pure ?_
    split
    · rename_i c _ _ _ _ _
      cases (c == Value.type "enumerate") <;> (wp_walk using wpAny_loadPart' hl, wpAny_pyIter_tuple hL; exact ⟨_, rfl, h⟩)
    · wp_walk using wpAny_loadPart' hl, wpAny_pyIter_tuple hL
      exact ⟨_, rfl, h⟩

theorem callEnum {l : Addr} {items : Array Value} {Q : Value → Shared → Prop} (hL : s.heap.IsTuple l items)
    (h : ∀ h', EnumAt h' (s.heap.objs.size + 1) s.heap.objs.size .none 0 .none → h'.IsTupleIter s.heap.objs.size l 0 → h'.objs.size = s.heap.objs.size + 2 →
      (∀ b o, s.heap.get? b = some o → h'.get? b = some o) → Q (.ref (s.heap.objs.size + 1)) { s with heap := h' }) :
    wpAny (model prog w) A (call (.type "enumerate") [.ref l]) Q E s := by
  obtain ⟨⟨c, dct, dt, sl⟩, hl, hc, n, hd⟩ := hL
  replace hc : c = .type "tuple" := hc
  replace hd : dt = .seq items n := hd
  subst hc hd
  refine callType_new F.called_enumerate (by decide) (F.typeCall_enumerate_1 _) (F.newCall_enumerate_1 _) (fun obj => F.args_object_init_2 obj _) F.entry_enumerate_new
    (enumNew l items n dct sl) ⟨hl, ?_⟩
  let H1 := s.heap.push { cls := .type "tuple_iterator", data := .fields #[.ref l, .int 0 0] }
  have hz : H1.objs.size = s.heap.objs.size + 1 := Heap.size_push ..
  have he := Heap.get?_push_size H1 (o := { cls := .type "enumerate", data := .fields #[.none, .bool false, .ref s.heap.objs.size, rawInt 0, .none, .none] }) rfl
  rw [hz] at he
  show _ ∧ Q (.ref H1.objs.size) _
  rw [show (s.heap.push { cls := .type "tuple_iterator", data := .fields #[.ref l, .int 0 0] } : Heap) = H1 from rfl, hz]
  exact ⟨⟨_, he, rfl⟩, h _ he ⟨_, Heap.get?_push_of_some _ (Heap.get?_push_size _ rfl), rfl, rfl⟩ (by rw [Heap.size_push, hz]) fun b o x => Heap.get?_push_of_some _ (Heap.get?_push_of_some _ x)⟩

theorem iterEnum {e it : Addr} {held : Value} {fl : Bool} {i : Int} {old : Value} {Q : Value → Shared → Prop} (he : EnumFl s.heap e it held fl i old) (h : Q (.ref e) s) : wpAny (model prog w) A (pyIter (.ref e)) Q E s := by
  have hT : s.TypeIs (.ref e) "enumerate" := ⟨_, he, rfl⟩
  refine wpAny_pyIter_slot hT F.slot_enumerate_iter (wpAny_call_entry F.slot_enumerate_iter hT F.entry_enumerate_iter ?_ (F.args_enumerate_iter_1 _))
  show wpAny _ _ (ret (.ref e)) _ _ s
  exact wpAny_pure ⟨_, rfl, "enumerate", _, hT, F.slot_enumerate_next.lookup, h⟩

/-- the next item of a tuple's iterator, by its slot alone -/
theorem nextTup {it l : Addr} {i : Nat} {items : Array Value} {x : Value} {Q : Value → Shared → Prop} (hit : s.heap.IsTupleIter it l i)
    (hl : s.heap.IsTuple l items) (hx : items[i]? = some x)
    (hQ : ∀ h', h'.IsTupleIter it l (i + 1) → Heap.SameBut it s.heap h' → Q x { s with heap := h' }) :
    wpAny (model prog w) A (Builtin.SmallTypes.nextOf (.ref it)) Q E s := by
  obtain ⟨o, ho, hc, hd⟩ := id hit
  obtain ⟨ol, hol, _, nl, hdl⟩ := hl
  unfold Builtin.SmallTypes.nextOf
  refine wpAny_bind (wpAny_callSpecial?_slot (name := Str.ofString "__next__") hit.typeIs F.slot_tuple_iterator_next
    (wpAny_call_entry F.slot_tuple_iterator_next hit.typeIs F.entry_tuple_iterator_next ?_ (F.args_tuple_iterator_next_1 _)))
  show wpAny _ _ (field (.ref it) 0 >>= _) _ _ s
  refine wpAny_bind (wpAny_field ho hd (x := .ref l) rfl ?_)
  show wpAny _ _ (if (Value.ref l == Value.none) = true then _ else _) _ _ s
  rw [if_neg (show ¬ ((Value.ref l == Value.none) = true) from Bool.false_ne_true)]
  show wpAny _ _ (field (.ref it) 1 >>= _) _ _ s
  refine wpAny_bind (wpAny_field ho hd (x := .int i 0) rfl ?_)
  show wpAny _ _ (seqItems? (.ref l) >>= _) _ _ s
  refine wpAny_bind (wpAny_seqItems hol hdl ?_)
  simp only [Int.toNat_natCast, hx]
  exact wpAny_bind (wpAny_setField ho hd (by simp) (wpAny_pure ⟨x, rfl, wpAny_pure (hQ _ ⟨_, Heap.get?_update_self _ ho (Obj.isFreed_of_fields (Obj.data_mapFields hd _)), (Obj.cls_mapFields ..).trans hc, by
    rw [Obj.data_mapFields hd]; simp [rawInt]⟩ (Heap.SameBut.update ..))⟩))

theorem endTup {it l : Addr} {i : Nat} {items : Array Value} {Q : Value → Shared → Prop} (hh : A.handled = none)
    (hit : s.heap.IsTupleIter it l i) (hl : s.heap.IsTuple l items) (hx : items[i]? = none)
    (hE : ∀ h' e, Heap.ExtBut it s.heap h' → (∃ o, h'.get? e = some o ∧ o.cls = .type "StopIteration") → E (.ref e) { s with heap := h' }) :
    wpAny (model prog w) A (Builtin.SmallTypes.nextOf (.ref it)) Q E s := by
  obtain ⟨o, ho, hc, hd⟩ := id hit
  obtain ⟨ol, hol, _, nl, hdl⟩ := hl
  unfold Builtin.SmallTypes.nextOf
  refine wpAny_bind (wpAny_callSpecial?_slot (name := Str.ofString "__next__") hit.typeIs F.slot_tuple_iterator_next
    (wpAny_call_entry F.slot_tuple_iterator_next hit.typeIs F.entry_tuple_iterator_next ?_ (F.args_tuple_iterator_next_1 _)))
  show wpAny _ _ (field (.ref it) 0 >>= _) _ _ s
  refine wpAny_bind (wpAny_field ho hd (x := .ref l) rfl ?_)
  show wpAny _ _ (if (Value.ref l == Value.none) = true then _ else _) _ _ s
  rw [if_neg (show ¬ ((Value.ref l == Value.none) = true) from Bool.false_ne_true)]
  show wpAny _ _ (field (.ref it) 1 >>= _) _ _ s
  refine wpAny_bind (wpAny_field ho hd (x := .int i 0) rfl ?_)
  show wpAny _ _ (seqItems? (.ref l) >>= _) _ _ s
  refine wpAny_bind (wpAny_seqItems hol hdl ?_)
  simp only [Int.toNat_natCast, hx]
  refine wpAny_bind (wpAny_rule (wpAny_bind (wpAny_setField ho hd (by simp) ?_)))
  show wpAny _ _ (newExc (.type "StopIteration") [] >>= _) _ _ _
  refine wpAny_bind ?_
  simp only [newExc, newTuple]
  refine wpAny_bind (wpAny_newObj_type ?_ (by size_fits))
  refine wpAny_bind (m := firstArgMember _ _) (wpAny_of_eq (a := Value.none) (by first | rfl | (simp only [firstArgMember]; rfl)) ?_)
  refine wpAny_newObj_type ?_ (by size_fits)
  simp only [raiseNew]
  refine wpAny_bind (wpAny_handled ?_)
  first | rw [show A.in1.handled = none from hh] | rw [hh]
  exact wpAny_bind (wpAny_pure (wpAny_throw (hE _ _ (((Heap.SameBut.update ..).extBut.push _).push _) ⟨_, Heap.get?_push_size _ rfl, rfl⟩)))

/-- what an enumerate may hold out: nothing, or a pair that lives -/
def HeldOk (h : Heap) (e it : Addr) (held : Value) : Prop := held = .none ∨ ∃ (a : Addr) (o : Obj), held = rawInt a ∧ h.get? a = some o ∧ a ≠ e ∧ a ≠ it

/-- one item of the enumerate, whether its pair is held out or not -/
theorem enumItem {e it l : Addr} {i : Nat} {items : Array Value} {x old held : Value} {fl : Bool} {Q : Option Value → Shared → Prop}
    (he : EnumFl s.heap e it held fl i old) (hheld : HeldOk s.heap e it held) (hit : s.heap.IsTupleIter it l i) (hl : s.heap.IsTuple l items) (hx : items[i]? = some x) (hne : e ≠ it)
    (hQ : ∀ h' held' fl' old', EnumFl h' e it held' fl' ((i : Int) + 1) old' → HeldOk h' e it held' → (held = .none → held' = rawInt s.heap.objs.size ∧ fl' = false) → h'.IsTupleIter it l (i + 1) →
      h'.get? s.heap.objs.size = some { cls := .type "tuple", data := .seq #[.int i s.toks, x] } → h'.objs.size = s.heap.objs.size + 1 →
      (∀ b o, b ≠ e → b ≠ it → s.heap.get? b = some o → h'.get? b = some o) → Q (some (.ref s.heap.objs.size)) { s with heap := h', toks := s.toks + 1 }) :
    wpAny (model prog w) A (pyNext (.ref e)) Q E s := by
  have hT : s.TypeIs (.ref e) "enumerate" := ⟨_, he, rfl⟩
  unfold pyNext
  refine wpAny_bind (wpAny_attempt (wpAny_callSpecial?_slot (name := Str.ofString "__next__") hT F.slot_enumerate_next
    (wpAny_call_entry F.slot_enumerate_next hT F.entry_enumerate_next ?_ (F.args_enumerate_next_1 _))))
  obtain ⟨hp, g, d, tk, os⟩ := s
  show wpAny _ _ (field (.ref e) 2 >>= _) _ _ _
  refine wpAny_bind (wpAny_field he rfl (x := .ref it) rfl ?_)
  refine wpAny_bind (nextTup hit hl hx fun h₁ hit₁ hs₁ => ?_)
  replace hs₁ : Heap.SameBut it hp h₁ := hs₁
  have he₁ : EnumFl h₁ e it held fl i old := (hs₁.2 e hne).trans he
  show wpAny _ _ (field (.ref e) 3 >>= _) _ _ ⟨h₁, g, d, tk, os⟩
  refine wpAny_bind (wpAny_field he₁ rfl (x := rawInt i) rfl ?_)
  show wpAny _ _ (field (.ref e) 4 >>= _) _ _ ⟨h₁, g, d, tk, os⟩
  refine wpAny_bind (wpAny_field he₁ rfl (x := .none) rfl ?_)
  show wpAny _ _ (mkInt i >>= _) _ _ ⟨h₁, g, d, tk, os⟩
  refine wpAny_bind (wpAny_mkInt ?_)
  show wpAny _ _ (setField (.ref e) 3 (rawInt ((i : Int) + 1)) >>= _) _ _ ⟨h₁, g, d, tk + 1, os⟩
  refine wpAny_bind (wpAny_setField_rec he₁ (by simp) fun h₂ he₂ hs₂ => ?_)
  replace hs₂ : Heap.SameBut e h₁ h₂ := hs₂
  replace he₂ : EnumFl h₂ e it held fl ((i : Int) + 1) old := he₂
  show wpAny _ _ (setField (.ref e) 4 .none >>= _) _ _ ⟨h₂, g, d, tk + 1, os⟩
  refine wpAny_bind (wpAny_setField_rec he₂ (by simp) fun h₃ he₃ hs₃ => ?_)
  replace hs₃ : Heap.SameBut e h₂ h₃ := hs₃
  replace he₃ : EnumFl h₃ e it held fl ((i : Int) + 1) old := he₃
  show wpAny _ _ (newTuple [.int i tk, x] >>= _) _ _ ⟨h₃, g, d, tk + 1, os⟩
  refine wpAny_bind (wpAny_newTuple ?_)
  have he₄ : EnumFl (h₃.push { cls := .type "tuple", data := .seq #[.int i tk, x] }) e it held fl ((i : Int) + 1) old := Heap.get?_push_of_some _ he₃
  have hsz : h₃.objs.size = hp.objs.size := by rw [hs₃.1, hs₂.1, hs₁.1]
  have hel : e < hp.objs.size := Heap.lt_size he
  have hil : it < hp.objs.size := by obtain ⟨_, y, _⟩ := hit; exact Heap.lt_size y
  have ht₄ : (h₃.push { cls := .type "tuple", data := .seq #[.int i tk, x] }).get? hp.objs.size = some { cls := .type "tuple", data := .seq #[.int i tk, x] } := by rw [← hsz]; exact Heap.get?_push_size _ rfl
  have hz₄ : (h₃.push { cls := .type "tuple", data := .seq #[.int i tk, x] }).objs.size = hp.objs.size + 1 := by rw [Heap.size_push, hsz]
  have hk₄ : ∀ b o, b ≠ e → b ≠ it → hp.get? b = some o → (h₃.push { cls := .type "tuple", data := .seq #[.int i tk, x] }).get? b = some o := fun b o hbe hbi hb =>
    Heap.get?_push_of_some _ (hs₃.extBut b o hbe (hs₂.extBut b o hbe (hs₁.extBut b o hbi hb)))
  have hit₄ : (h₃.push { cls := .type "tuple", data := .seq #[.int i tk, x] }).IsTupleIter it l (i + 1) := by
    obtain ⟨o, ho, r⟩ := (hit₁.extBut hs₂.extBut (Ne.symm hne)).extBut hs₃.extBut (Ne.symm hne); exact ⟨o, Heap.get?_push_of_some _ ho, r⟩
  generalize h₃.push { cls := .type "tuple", data := .seq #[.int i tk, x] } = h₄ at he₄ ht₄ hz₄ hk₄ hit₄
  show wpAny _ _ (Builtin.SmallTypes.ownedTupleIsFree (.ref e) >>= _) _ _ ⟨h₄, g, d, tk + 1, os⟩
  rw [hsz]
  clear he₃ hs₃ he₂ hs₂ he₁ hs₁ hit₁ hsz h₃ h₂ h₁
  refine wpAny_bind ?_
  unfold Builtin.SmallTypes.ownedTupleIsFree
  rcases hheld with rfl | ⟨a, oa, rfl, hoa, hae, hai⟩
  · refine wpAny_bind (wpAny_field he₄ rfl (x := .none) rfl (wpAny_pure ?_))
    simp only [if_true]
    refine wpAny_bind (wpAny_rule ?_)
    refine wpAny_bind (wpAny_field he₄ rfl (x := old) rfl ?_)
    refine wpAny_bind (wpAny_setField_rec he₄ (by simp) fun h₅ he₅ hs₅ => ?_)
    replace hs₅ : Heap.SameBut e h₄ h₅ := hs₅
    replace he₅ : EnumFl h₅ e it .none fl ((i : Int) + 1) x := he₅
    show wpAny _ _ (Builtin.SmallTypes.ownedTupleHandOut (.ref e) (.ref hp.objs.size) >>= _) _ _ ⟨h₅, g, d, tk + 1, os⟩
    refine wpAny_bind ?_
    unfold Builtin.SmallTypes.ownedTupleHandOut
    refine wpAny_bind (wpAny_setField_rec he₅ (by simp) fun h₆ he₆ hs₆ => ?_)
    replace hs₆ : Heap.SameBut e h₅ h₆ := hs₆
    replace he₆ : EnumFl h₆ e it (rawInt hp.objs.size) fl ((i : Int) + 1) x := he₆
    refine wpAny_setField_rec he₆ (by simp) fun h₇ he₇ hs₇ => ?_
    replace hs₇ : Heap.SameBut e h₆ h₇ := hs₇
    replace he₇ : EnumFl h₇ e it (rawInt hp.objs.size) false ((i : Int) + 1) x := he₇
    have ht₇ := hs₇.extBut _ _ (Nat.ne_of_gt hel) (hs₆.extBut _ _ (Nat.ne_of_gt hel) (hs₅.extBut _ _ (Nat.ne_of_gt hel) ht₄))
    refine wpAny_bind (wpAny_letGo (wpAny_pure ⟨_, rfl, wpAny_pure (hQ h₇ _ _ _ he₇ (.inr ⟨hp.objs.size, _, rfl, ht₇, Nat.ne_of_gt hel, Nat.ne_of_gt hil⟩) (fun _ => ⟨rfl, rfl⟩) ?_ ht₇ ?_ ?_)⟩))
    · exact ((hit₄.extBut hs₅.extBut (Ne.symm hne)).extBut hs₆.extBut (Ne.symm hne)).extBut hs₇.extBut (Ne.symm hne)
    · rw [hs₇.1, hs₆.1, hs₅.1, hz₄]
    · exact fun b o hbe hbi hb => hs₇.extBut b o hbe (hs₆.extBut b o hbe (hs₅.extBut b o hbe (hk₄ b o hbe hbi hb)))
  · have hn : rawInt (a : Int) ≠ .none := by intro h; cases h
    have hoa₄ : h₄.get? a = some oa := hk₄ a oa hae hai hoa
    refine wpAny_bind (wpAny_field he₄ rfl (x := rawInt (a : Int)) rfl ?_)
    show wpAny _ _ (loadIfAlive ((a : Int).toNat) >>= _) _ _ _
    refine wpAny_bind (ifAlive ?_)
    rw [show ((a : Int).toNat) = a from Int.toNat_natCast a]
    show wpAny _ _ (if (h₄.get? a).isNone = true then _ else _) _ _ _
    rw [hoa₄]
    simp only [Option.isNone_some, Bool.false_eq_true, if_false]
    refine wpAny_bind (wpAny_field he₄ rfl (x := .bool fl) rfl ?_)
    cases fl with
    | true =>
      simp only [bne_self_eq_false, Bool.false_eq_true, if_false]
      exact wpAny_pure (wpAny_pure ⟨_, rfl, wpAny_pure (hQ h₄ _ _ _ he₄ (.inr ⟨a, oa, rfl, hoa₄, hae, hai⟩) (fun h => absurd h hn) hit₄ ht₄ hz₄ hk₄)⟩)
    | false =>
      rw [if_pos (by decide)]
      refine wpAny_bind (wpAny_setField_rec he₄ (by simp) fun h₅ he₅ hs₅ => ?_)
      replace hs₅ : Heap.SameBut e h₄ h₅ := hs₅
      replace he₅ : EnumFl h₅ e it (rawInt a) true ((i : Int) + 1) old := he₅
      refine wpAny_pure ?_
      simp only [Bool.false_eq_true, if_false]
      exact wpAny_pure ⟨_, rfl, wpAny_pure (hQ h₅ _ _ _ he₅ (.inr ⟨a, oa, rfl, hs₅.extBut _ _ hae hoa₄, hae, hai⟩) (fun h => absurd h hn) (hit₄.extBut hs₅.extBut (Ne.symm hne)) (hs₅.extBut _ _ (Nat.ne_of_gt hel) ht₄) (by rw [hs₅.1, hz₄]) fun b o hbe hbi hb => hs₅.extBut b o hbe (hk₄ b o hbe hbi hb))⟩

theorem enumEnd {e it l : Addr} {i : Nat} {items : Array Value} {old held : Value} {fl : Bool} {Q : Option Value → Shared → Prop} (hh : A.handled = none)
    (he : EnumFl s.heap e it held fl i old) (hit : s.heap.IsTupleIter it l i) (hl : s.heap.IsTuple l items) (hx : items[i]? = none)
    (hQ : ∀ h', Heap.ExtBut it s.heap h' → Q none { s with heap := h' }) : wpAny (model prog w) A (pyNext (.ref e)) Q E s := by
  have hT : s.TypeIs (.ref e) "enumerate" := ⟨_, he, rfl⟩
  unfold pyNext
  refine wpAny_bind (wpAny_attempt (wpAny_callSpecial?_slot (name := Str.ofString "__next__") hT F.slot_enumerate_next
    (wpAny_call_entry F.slot_enumerate_next hT F.entry_enumerate_next ?_ (F.args_enumerate_next_1 _))))
  show wpAny _ _ (field (.ref e) 2 >>= _) _ _ _
  refine wpAny_bind (wpAny_field he rfl (x := .ref it) rfl ?_)
  refine wpAny_bind (endTup hh hit hl hx fun h' x he' hx' => ?_)
  obtain ⟨o, ho, hc⟩ := hx'
  refine wpAny_bind (wpAny_isInstance (T := "StopIteration") (b := true) ⟨o, ho, hc⟩ isSubtype_stop ?_)
  exact wpAny_pure (hQ _ he')

/-- an enumerate over a tuple, as a for statement walks it -/
theorem enumWalk (hh : A.handled = none) (e it l : Addr) (hei : e ≠ it) (hle : l ≠ e) (hli : l ≠ it) (items : Array Value) :
    WalksT prog w A e [e, it, l] [e, it] items.size
      (fun i vals => ∃ t x, items[i]? = some x ∧ vals = #[.int i t, x])
      (fun i h => (∃ old, EnumAt h e it .none i old) ∧ h.IsTupleIter it l i ∧ h.IsTuple l items)
      (fun i T h => (∃ x, EnumAt h e it (rawInt T) ((i : Int) + 1) x) ∧ h.IsTupleIter it l (i + 1) ∧ h.IsTuple l items ∧ T ≠ e ∧ T ≠ it) where
  sub := fun b hb => by simp only [List.mem_cons, List.not_mem_nil, or_false] at hb ⊢; rcases hb with h | h <;> simp [h]
  frame := fun i h h' hst hk => by
    obtain ⟨⟨old, he⟩, hit, hl⟩ := hst
    exact ⟨⟨old, hk e (by simp) _ he⟩, hit.at fun o x => hk it (by simp) o x, hl.at fun o x => hk l (by simp) o x⟩
  item := fun i s Q E hi hst hQ => by
    obtain ⟨⟨old, he⟩, hit, hl⟩ := hst
    have hx : items[i]? = some items[i] := Array.getElem?_eq_getElem hi
    refine enumItem he (.inl rfl) hit hl hx hei fun h' held' fl' old' ho _ h2 hit' hT hsz hk => ?_
    obtain ⟨rfl, rfl⟩ := h2 rfl
    have helt : e < s.heap.objs.size := Heap.lt_size he
    have hilt : it < s.heap.objs.size := by obtain ⟨_, x, _⟩ := hit; exact Heap.lt_size x
    exact hQ s.heap.objs.size #[.int i s.toks, items[i]] h' (s.toks + 1) ⟨_, _, hx, rfl⟩ (Nat.le_refl _) ⟨_, hT, rfl, _, rfl⟩
      ⟨⟨_, ho⟩, hit', hl.at fun o x => hk l o hle hli x, Nat.ne_of_gt helt, Nat.ne_of_gt hilt⟩
      fun b o hb x => hk b o (fun e' => hb (by simp [e'])) (fun e' => hb (by simp [e'])) x
  go := fun elts k pos i T s Q E hm hQ => by
    obtain ⟨⟨x, ho⟩, hit, hl, hTe, hTi⟩ := hm
    refine wpAny_letOwnedTupleGo_enum ho fun h' he' hs' => hQ h' ⟨⟨x, by simpa using he'⟩, hit.at fun o y => (hs'.2 it hei.symm).trans y, hl.at fun o y => (hs'.2 l hle).trans y⟩ fun b o hb y => ?_
    exact (hs'.2 b fun e' => hb (by simp [e'])).trans y
  apart := fun i T h hm hT => by
    obtain ⟨_, _, _, hTe, hTi⟩ := hm
    simp only [List.mem_cons, List.not_mem_nil, or_false] at hT
    exact hT.elim hTe hTi
  done := fun s Q E hst hQ => by
    obtain ⟨⟨old, he⟩, hit, hl⟩ := hst
    exact enumEnd hh he hit hl (Array.getElem?_eq_none (Nat.le_refl _)) fun h' hx => hQ h' s.toks fun b o hb y => hx b o (fun e' => hb (by simp [e'])) y
  self := fun i s Q E hst hQ => by
    obtain ⟨⟨old, he⟩, _, _⟩ := hst
    exact iterEnum he hQ
end
end Mine

end

section
open PySem PySem.W PyProof.Rows PySem.Calls
open Sem (wp)
set_option Elab.async false
set_option maxRecDepth 100000
namespace Mine
theorem enum_no_len : typeLookup (.type "enumerate") "__len__" = pure none := by rw [typeLookup_type, builtinLookup_eq_fast]; kernel_rfl
theorem enum_no_hint : typeLookup (.type "enumerate") "__length_hint__" = pure none := by rw [typeLookup_type, builtinLookup_eq_fast]; kernel_rfl

abbrev pairO (j : Int) (t : Tok) (x : Value) : Obj := { cls := .type "tuple", data := .seq #[.int j t, x] }
/-- the pairs that an enumerate over items has made so far, each at its address from lo on -/
def PairsAt (h : Heap) (lo : Nat) (items : Array Value) (Ts : List Addr) : Prop :=
  ∀ (j : Nat) (T : Addr), Ts[j]? = some T → lo ≤ T ∧ ∃ t x, items[j]? = some x ∧ h.get? T = some (pairO j t x)
theorem PairsAt.keeps {h h' : Heap} {lo : Nat} {items : Array Value} {Ts : List Addr} (P : PairsAt h lo items Ts) (hk : ∀ b o, lo ≤ b → h.get? b = some o → h'.get? b = some o) : PairsAt h' lo items Ts := fun j T e =>
  let ⟨hl, t, x, hx, hT⟩ := P j T e; ⟨hl, t, x, hx, hk _ _ hl hT⟩

section
variable {prog : Program} {w : World} {A : Around} {E : Value → Shared → Prop} {s : Shared}

theorem enumLoop {R : Result → Shared → Prop} {e it l S : Addr} {items : Array Value} {res : Value} {lo : Nat} (hh : A.handled = none) (hei : e ≠ it) (hle : l ≠ e) (hli : l ≠ it) (hSe : S ≠ e) (hSi : S ≠ it) (hSl : S ≠ l)
    (hn : items.size ≤ sizeLine) (hSlo : S < lo) (helo : e < lo) (hilo : it < lo) :
    ∀ (k i : Nat) (h : Heap) (tk : Nat) (Ts : List Addr) (c : Nat) (held : Value) (fl : Bool) (old : Value), items.size - i = k → i ≤ items.size → Ts.length = i → lo ≤ h.objs.size →
      EnumFl h e it held fl i old → HeldOk h e it held → h.IsTupleIter it l i → h.IsTuple l items →
      h.get? S = some { cls := .type "list", dict := none, data := .seq (Ts.map Value.ref).toArray c, slots := #[] } → PairsAt h lo items Ts →
      (∀ h' tk' Ts' c', (∀ b o, b ≠ S → b ≠ e → b ≠ it → h.get? b = some o → h'.get? b = some o) → Ts'.length = items.size →
        h'.get? S = some { cls := .type "list", dict := none, data := .seq (Ts'.map Value.ref).toArray c', slots := #[] } → PairsAt h' lo items Ts' → R (.ok (.ret res)) { s with heap := h', toks := tk' }) →
      codeAny (model prog w) A (.builtin "list.extend.loop" ⟨[.ref S, .ref e, res], []⟩) R { s with heap := h, toks := tk } := by
  intro k
  induction k with
  | zero =>
    intro i h tk Ts c held fl old hk hi hlen hlo he hheld hit hl hS hP hR
    obtain rfl : i = items.size := by omega
    refine codeAny_builtin F.entry_extend_loop ?_
    rw [Around.under_plainId F.plain_extend_loop _]
    show wpAny _ A.in1 (pyNext (.ref e) >>= _) _ _ _
    refine wpAny_bind (enumEnd (A := A.in1) hh he hit hl (Array.getElem?_eq_none (Nat.le_refl _)) fun h' hx => wpAny_pure ?_)
    refine hR h' tk Ts c (fun b o _ _ hb z => hx b o hb z) hlen (hx S _ hSi hS) (hP.keeps fun b o hb z => hx b o (fun q => ?_) z)
    rw [q] at hb; exact Nat.lt_irrefl _ (Nat.lt_of_lt_of_le hilo hb)
  | succ k ih =>
    intro i h tk Ts c held fl old hk hi hlen hlo he hheld hit hl hS hP hR
    have hlt : i < items.size := by omega
    refine codeAny_builtin F.entry_extend_loop ?_
    rw [Around.under_plainId F.plain_extend_loop _]
    show wpAny _ A.in1 (pyNext (.ref e) >>= _) _ _ _
    refine wpAny_bind (enumItem (A := A.in1) he hheld hit hl (Array.getElem?_eq_getElem hlt) hei fun h₁ held₁ fl₁ old₁ he₁ hheld₁ hfree hit₁ hT₁ hsz₁ hk₁ => ?_)
    have hS₁ := hk₁ S _ hSe hSi hS
    have hSz : S < h.objs.size := Heap.lt_size hS
    show wpAny _ A.in1 (updateSeq S (·.push (.ref h.objs.size)) >>= _) _ _ _
    refine wpAny_bind ?_
    refine wpAny_updateSeq hS₁ rfl (wpAny_pure ⟨plainId_quiet F.plain_extend_loop _, ?_⟩) (by simp; omega) (by show ((Ts.map Value.ref).toArray.push (Value.ref h.objs.size)).size ≤ sizeLine + 1; simp; omega)
    have oth : ∀ b o, b ≠ S → h₁.get? b = some o → (h₁.update S (Obj.mapSeq (·.push (Value.ref h.objs.size)))).get? b = some o := fun b o hb z => (Heap.get?_update_other _ _ (Ne.symm hb)).trans z
    have hS₂ := Heap.get?_update_self (Obj.mapSeq (·.push (Value.ref h.objs.size))) hS₁ rfl
    have heS : (Obj.mapSeq (·.push (Value.ref h.objs.size)) { cls := .type "list", dict := none, data := .seq (Ts.map Value.ref).toArray c, slots := #[] } : Obj) =
        { cls := .type "list", dict := none, data := .seq ((Ts ++ [h.objs.size]).map Value.ref).toArray (c + 1), slots := #[] } := by
      simp [Obj.mapSeq]
    rw [heS] at hS₂
    refine ih (i + 1) _ _ (Ts ++ [h.objs.size]) (c + 1) held₁ fl₁ old₁ (by omega) hlt (by simp [hlen]) ?_ ?_ ?_ ?_ ?_ hS₂ ?_ ?_
    · show lo ≤ (h₁.update S _).objs.size
      rw [(Heap.SameBut.update h₁ S _).1, show h₁.objs.size = h.objs.size + 1 from hsz₁]; exact Nat.le_succ_of_le hlo
    · exact oth _ _ (Ne.symm hSe) he₁
    · rcases hheld₁ with rfl | ⟨a, o, rfl, hoa, hae, hai⟩
      · exact .inl rfl
      · by_cases haS : a = S
        · subst haS; exact .inr ⟨a, _, rfl, hS₂, hae, hai⟩
        · exact .inr ⟨a, o, rfl, oth _ _ haS hoa, hae, hai⟩
    · obtain ⟨o, ho, r⟩ := hit₁; exact ⟨o, oth _ _ (Ne.symm hSi) ho, r⟩
    · obtain ⟨o, ho, r⟩ := hl; exact ⟨o, oth _ _ (Ne.symm hSl) (hk₁ _ _ hle hli ho), r⟩
    · have big : ∀ b o, lo ≤ b → h.get? b = some o → (h₁.update S (Obj.mapSeq (·.push (Value.ref h.objs.size)))).get? b = some o := fun b o hb z =>
        oth b o (fun q => by rw [q] at hb; exact Nat.lt_irrefl _ (Nat.lt_of_lt_of_le hSlo hb)) (hk₁ b o (fun q => by rw [q] at hb; exact Nat.lt_irrefl _ (Nat.lt_of_lt_of_le helo hb)) (fun q => by rw [q] at hb; exact Nat.lt_irrefl _ (Nat.lt_of_lt_of_le hilo hb)) z)
      intro j T hj
      by_cases hjl : j < Ts.length
      · rw [List.getElem?_append_left hjl] at hj
        exact (hP.keeps big) j T hj
      · rw [List.getElem?_append_right (by omega)] at hj
        have hj0 : j - Ts.length = 0 := by
          cases hq : j - Ts.length with
          | zero => rfl
          | succ q => rw [hq] at hj; simp at hj
        rw [hj0] at hj
        obtain rfl : h.objs.size = T := by simpa using hj
        have hji : j = i := by omega
        subst hji
        exact ⟨hlo, _, _, Array.getElem?_eq_getElem hlt, oth _ _ (Nat.ne_of_gt hSz) hT₁⟩
    · intro h' tk' Ts' c' hk' a b d
      exact hR h' tk' Ts' c' (fun x o h1 h2 h3 z => hk' x o h1 h2 h3 (oth x o h1 (hk₁ x o h2 h3 z))) a b d

/-- list(an enumerate over a tuple) -/
theorem listEnum {Q : Value → Shared → Prop} {e it l : Addr} {items : Array Value} (hh : A.handled = none) (hei : e ≠ it) (hle : l ≠ e) (hli : l ≠ it)
    (hn : items.size ≤ sizeLine) (he : EnumAt s.heap e it .none 0 .none) (hit : s.heap.IsTupleIter it l 0) (hl : s.heap.IsTuple l items)
    (hQ : ∀ h' tk' Ts c, (∀ b o, b ≠ e → b ≠ it → s.heap.get? b = some o → h'.get? b = some o) → Ts.length = items.size →
      h'.get? s.heap.objs.size = some { cls := .type "list", dict := none, data := .seq (Ts.map Value.ref).toArray c, slots := #[] } → PairsAt h' (s.heap.objs.size + 1) items Ts → Q (.ref s.heap.objs.size) { s with heap := h', toks := tk' }) :
    wpAny (model prog w) A (call (.type "list") [.ref e]) Q E s := by
  have hel : e < s.heap.objs.size := Heap.lt_size he
  have hil : it < s.heap.objs.size := by obtain ⟨_, y, _⟩ := hit; exact Heap.lt_size y
  have hll : l < s.heap.objs.size := by obtain ⟨_, y, _⟩ := hl; exact Heap.lt_size y
  refine callType_codes (Q₁ := fun obj s₁ => obj = .ref s.heap.objs.size ∧ s₁ = { s with heap := s.heap.push { cls := .type "list", data := .seq #[] } }) F.called_list (F.typeCall_list_1 _) F.entry_list_init
    (code_list_new _ ⟨rfl, rfl⟩) fun obj s₁ h₁ => ?_
  obtain ⟨rfl, rfl⟩ := h₁
  have hS : (s.heap.push { cls := .type "list", data := .seq #[] }).get? s.heap.objs.size = some { cls := .type "list", data := .seq #[] } := Heap.get?_push_size _ rfl
  refine ⟨⟨_, hS, rfl⟩, F.args_list_init_2 _ _, ?_⟩
  generalize hS0 : s.heap.objs.size = S at hS hQ hel hil hll
  generalize hH0 : s.heap.push { cls := .type "list", data := .seq #[] } = H0 at hS
  have up0 : ∀ b o, s.heap.get? b = some o → H0.get? b = some o := fun b o z => hH0 ▸ Heap.get?_push_of_some _ z
  have hz0 : H0.objs.size = S + 1 := by rw [← hH0, Heap.size_push, hS0]
  show wpAny _ A.in1.in1 (do let old ← Builtin.List.listItems (.ref S); Builtin.List.listUpdate (.ref S) (fun _ => #[]); letGo old.toList.reverse; Builtin.List.listExtendWith (.ref S) (.ref e) .none) _ _ _
  refine wpAny_bind ?_
  unfold Builtin.List.listItems
  refine wpAny_bind (wpAny_seqItems hS rfl (wpAny_pure ?_))
  show wpAny _ A.in1.in1 (updateSeq S (fun _ => #[]) >>= fun _ => letGo (#[] : Array Value).toList.reverse >>= fun _ => Builtin.List.listExtendWith (.ref S) (.ref e) .none) _ _ _
  refine wpAny_bind (wpAny_updateSeq hS rfl ?_)
  have hS₂ := Heap.get?_update_self (Obj.mapSeq (fun _ => (#[] : Array Value))) hS rfl
  have oth : ∀ b o, b ≠ S → H0.get? b = some o → (H0.update S (Obj.mapSeq (fun _ => (#[] : Array Value)))).get? b = some o :=
    fun b o hb z => (Heap.get?_update_other _ _ (Ne.symm hb)).trans z
  have hz1 : (H0.update S (Obj.mapSeq (fun _ => (#[] : Array Value)))).objs.size = S + 1 := by rw [(Heap.SameBut.update H0 S _).1, hz0]
  show wpAny _ A.in1.in1 (letGo _ >>= fun _ => Builtin.List.listExtendWith (.ref S) (.ref e) .none) _ _ { s with heap := H0.update S (Obj.mapSeq (fun _ => (#[] : Array Value))) }
  generalize H0.update S (Obj.mapSeq (fun _ => (#[] : Array Value))) = H1 at hS₂ oth hz1
  have up1 : ∀ b o, b ≠ S → s.heap.get? b = some o → H1.get? b = some o := fun b o hb z => oth b o hb (up0 b o z)
  have he1 : EnumAt H1 e it .none 0 .none := up1 _ _ (Nat.ne_of_lt hel) he
  have hit1 : H1.IsTupleIter it l 0 := by obtain ⟨o, z, r⟩ := hit; exact ⟨o, up1 _ _ (Nat.ne_of_lt hil) z, r⟩
  have hl1 : H1.IsTuple l items := by obtain ⟨o, z, r⟩ := hl; exact ⟨o, up1 _ _ (Nat.ne_of_lt hll) z, r⟩
  refine wpAny_bind (wpAny_letGo ?_)
  unfold Builtin.List.listExtendWith
  have hT : ∀ (h : Heap) (tk : Nat), EnumAt h e it .none 0 .none → ({ s with heap := h, toks := tk } : Shared).TypeIs (.ref e) "enumerate" := fun h tk z => ⟨_, z, rfl⟩
  refine wpAny_bind (wpAny_typeOf (hT _ _ he1) ?_)
  have h1 : Builtin.List.listSameRef (.ref S) (.ref e) = false := by simp only [Builtin.List.listSameRef]; exact decide_eq_false (Nat.ne_of_gt hel)
  have h2 : (Value.type "enumerate" == Value.type "list") = false := by decide
  have h3 : (Value.type "enumerate" == Value.type "tuple") = false := by decide
  simp only [h1, h2, h3, Bool.or_false, Bool.false_eq_true, if_false]
  refine wpAny_bind (iterEnum he1 ?_)
  refine wpAny_bind (wpAny_holding ?_)
  unfold Builtin.List.listLengthHint
  refine wpAny_bind (wpAny_specialOf (hT _ _ he1) enum_no_len ?_)
  show wpAny _ A.in1.in1 (specialOf (Value.ref e) (Str.ofString "__length_hint__") >>= _) _ _ _
  refine wpAny_bind (wpAny_specialOf (hT _ _ he1) enum_no_hint ?_)
  refine wpAny_pure ?_
  show wpAny _ A.in1.in1 (rule "list.extend.makes-room" >>= fun _ => Builtin.List.listTouch (.ref S) >>= fun _ =>
    again (.builtin "list.extend.loop" ⟨[.ref S, .ref e, .none], []⟩)) _ _ _
  refine wpAny_bind (wpAny_rule ?_)
  refine wpAny_bind ?_
  show wpAny _ A.in1.in1 (updateSeq S (·.push .none) >>= fun _ => updateSeq S (·.pop)) _ _ _
  refine wpAny_bind (wpAny_updateSeq hS₂ rfl ?_)
  have hS₃ := Heap.get?_update_self (Obj.mapSeq (·.push Value.none)) hS₂ rfl
  refine wpAny_updateSeq (hz := by seq_fits) hS₃ rfl ?_
  have hS₄ := Heap.get?_update_self (Obj.mapSeq (·.pop)) hS₃ rfl
  have oth2 : ∀ b o, b ≠ S → H1.get? b = some o → ((H1.update S (Obj.mapSeq (·.push Value.none))).update S (Obj.mapSeq (·.pop))).get? b = some o :=
    fun b o hb z => (Heap.get?_update_other _ _ (Ne.symm hb)).trans ((Heap.get?_update_other _ _ (Ne.symm hb)).trans z)
  have hz2 : ((H1.update S (Obj.mapSeq (·.push Value.none))).update S (Obj.mapSeq (·.pop))).objs.size = S + 1 := by rw [(Heap.SameBut.update _ S _).1, (Heap.SameBut.update _ S _).1, hz1]
  refine wpAny_pure ⟨plainId_quiet F.plain_extend_loop _, ?_⟩
  show codeAny _ _ _ _ { s with heap := (H1.update S (Obj.mapSeq (·.push Value.none))).update S (Obj.mapSeq (·.pop)), toks := s.toks }
  generalize (H1.update S (Obj.mapSeq (·.push Value.none))).update S (Obj.mapSeq (·.pop)) = H2 at hS₄ oth2 hz2
  refine enumLoop (lo := S + 1) (A := A.in1) hh hei hle hli (Nat.ne_of_gt hel) (Nat.ne_of_gt hil) (Nat.ne_of_gt hll) hn (Nat.lt_succ_self _) (Nat.lt_succ_of_lt hel) (Nat.lt_succ_of_lt hil) items.size 0 H2 s.toks [] _ .none false .none (by simp) (Nat.zero_le _) rfl (by omega)
    (oth2 _ _ (Nat.ne_of_lt hel) he1) (.inl rfl) (by obtain ⟨o, z, r⟩ := hit1; exact ⟨o, oth2 _ _ (Nat.ne_of_lt hil) z, r⟩) (by obtain ⟨o, z, r⟩ := hl1; exact ⟨o, oth2 _ _ (Nat.ne_of_lt hll) z, r⟩)
    hS₄ (fun j T hj => by simp at hj) fun h' tk' Ts' c' hk a b d => ?_
  exact ⟨rfl, hQ h' tk' Ts' c' (fun b o hbe hbi z => hk b o (fun q => by rw [q, ← hS0] at z; exact Nat.lt_irrefl _ (Heap.lt_size z)) hbe hbi (oth2 b o (fun q => by rw [q, ← hS0] at z; exact Nat.lt_irrefl _ (Heap.lt_size z)) (up1 b o (fun q => by rw [q, ← hS0] at z; exact Nat.lt_irrefl _ (Heap.lt_size z)) z))) a b d⟩
end
end Mine

end

section
open PySem PySem.W PyProof.Rows PySem.Calls PyProof.Rows.LCg
open Sem (wp)
set_option Elab.async false
set_option maxRecDepth 100000
namespace Mine
/-- the pairs (place, value) of the first n values that are no zero, as the comprehension makes them -/
def McN (vs : List Value) : Nat → List (Addr × Obj) → Prop
  | 0, tl => tl = []
  | n + 1, tl => match vs[n]? with
    | some (.int c t) => if c = 0 then McN vs n tl else ∃ tl' T t', tl = tl' ++ [(T, pairO n t' (.int c t))] ∧ McN vs n tl'
    | _ => False
abbrev refsOf (tl : List (Addr × Obj)) : List Value := tl.map fun p => .ref p.1

section
variable {prog : Program} {w : World} {A : Around} {E : Value → Shared → Prop} {s : Shared} {env : Env}

theorem ifInt {i : Int} {t : Tok} {c : Expr} {Q : Bool → Shared → Prop} (hv : ∀ R : Value → Shared → Prop, R (.int i t) s → wpAny (model prog w) A (eval c env) R E s) (h : Q (i != 0) s)
    (he : isTrue c env (eval c env) = (do let v ← eval c env; standAt c.pos; holding [v] (truthy v)) := by rfl) : wpAny (model prog w) A (isTrue c env (eval c env)) Q E s :=
  isTrue_plain (hv _ (truthy_int h)) he

theorem mcLoop {e itr l C D lo : Addr} {vs : List Value} {iter : Expr} {a b : Str} {pa pb tp pc pa' pb' tp' : Pos} {kk kk' : Nat} {scope : Scope} {cl : List (Str × Addr)} {pos : Pos} {m₀ : Str → Option Value} {R : Result → Shared → Prop}
    (hh : A.handled = none) (hei : e ≠ itr) (hle : l ≠ e) (hli : l ≠ itr) (hDe : D ≠ e) (hDi : D ≠ itr) (hDl : D ≠ l) (hCe : C ≠ e) (hCi : C ≠ itr) (hCl : C ≠ l) (hCD : C ≠ D)
    (hDlo : D < lo) (hClo : C < lo) (helo : e < lo) (hilo : itr < lo) (hsz : vs.length ≤ sizeLine) (hvs : ∀ v ∈ vs, ∃ c t, v = .int c t)
    (hkind : scope.kind = .function) (hxa : scope.names.lookup a = some .local) (hxb : scope.names.lookup b = some .local) (hab : ¬ a = b) (hda : (a == ("__debug__" : Str)) = false) (hdb : (b == ("__debug__" : Str)) = false)
    (s₂ : Shared) (hlo : lo ≤ s₂.heap.objs.size) (he : EnumAt s₂.heap e itr .none 0 .none) (hit : s₂.heap.IsTupleIter itr l 0) (hl : s₂.heap.IsTuple l vs.toArray) (hn : s₂.heap.Ns C m₀) (hD : s₂.heap.get? D = some (lst []))
    (hR : ∀ h' tk tl m', (∀ b o, b ≠ e → b ≠ itr → b ≠ C → b ≠ D → s₂.heap.get? b = some o → h'.get? b = some o) → h'.Ns C m' → h'.get? D = some (lst (refsOf tl)) → McN vs vs.length tl →
      (∀ p ∈ tl, h'.get? p.1 = some p.2 ∧ lo ≤ p.1) → R (.ok .next) { s₂ with heap := h', toks := tk }) :
    codeAny (model prog w) A (.compLoop (.ListComp (.Tuple [.Name a pa', .Name b pb'] kk' tp') [⟨.Tuple [.Name a pa, .Name b pb] kk tp, iter, [.Name b pc], 0⟩] scope pos) 0 (.ref e) (.ref D) (compEnvC scope cl C env)) R s₂ := by
  have hka : (compEnvC scope cl C env).kindOf a = some .local := lookup_relabel_local hxa
  have hkb : (compEnvC scope cl C env).kindOf b = some .local := lookup_relabel_local hxb
  have hks : (compEnvC scope cl C env).scope.kind = .function := by simp [compEnvC, relabel, hkind]
  have W := enumWalk (prog := prog) (w := w) (A := A) hh e itr l hei hle hli vs.toArray
  have hsize : vs.toArray.size = vs.length := by simp
  rw [hsize] at W
  refine kct_loop
    (fun k s' => ∃ h' tk i tl m', s' = { s₂ with heap := h', toks := tk } ∧ i ≤ vs.length ∧ k = vs.length + 1 - i ∧ tl.length ≤ i ∧ (∃ old, EnumAt h' e itr .none i old) ∧ h'.IsTupleIter itr l i ∧ h'.IsTuple l vs.toArray ∧ h'.Ns C m' ∧
      h'.get? D = some (lst (refsOf tl)) ∧ McN vs i tl ∧ (∀ p ∈ tl, h'.get? p.1 = some p.2 ∧ lo ≤ p.1) ∧ lo ≤ h'.objs.size ∧ (∀ b o, b ≠ e → b ≠ itr → b ≠ C → b ≠ D → s₂.heap.get? b = some o → h'.get? b = some o)) ?_ (vs.length + 1)
    ⟨s₂.heap, s₂.toks, 0, [], m₀, rfl, Nat.zero_le _, rfl, Nat.le_refl _, ⟨_, he⟩, hit, hl, hn, hD, rfl, (fun p hp => nomatch hp), hlo, fun _ _ _ _ _ _ z => z⟩
  rintro k s' ⟨h', tk, i, tl, m', rfl, hi, rfl, hyl, he', hit', hl', hn', hD', hM, hT, hlo', hkeep⟩
  have hilt : itr < h'.objs.size := by obtain ⟨_, z, _⟩ := hit'; exact Heap.lt_size z
  by_cases hlt : i < vs.length
  · refine W.item i _ _ _ hlt ⟨he', hit', hl'⟩ fun T vals h₂ tk₂ hPt hTlo hTt hMid hk₂ => ?_
    refine W.go _ _ _ i T _ _ _ hMid fun h₃ hst₃ hk₃ => ?_
    obtain ⟨t, x, hx, rfl⟩ := hPt
    have hx' : vs[i]? = some x := by simpa using hx
    obtain ⟨c, tc, rfl⟩ := hvs x (List.mem_of_getElem? hx')
    have hTw : T ∉ [e, itr] := W.apart i T _ hMid
    have up₃ : ∀ c o, c ≠ e → c ≠ itr → h'.get? c = some o → h₃.get? c = some o := fun c o h1 h2 z => hk₃ c o (by simp [h1, h2]) (hk₂ c o (by simp [h1, h2]) z)
    have hT₃ : h₃.IsTuple T #[.int i t, .int c tc] := by obtain ⟨o, z, r⟩ := hTt; exact ⟨o, hk₃ T o hTw z, r⟩
    refine kcp_assign (env := compEnvC scope cl C env) hh hT₃ hka hkb (by simp [compEnvC, relabel, hkind]) (hn'.at' fun o z => up₃ _ o hCe hCi z) fun h₄ tk₄ hn₄ hs₄ => ?_
    have up₄ : ∀ c o, c ≠ e → c ≠ itr → c ≠ C → h'.get? c = some o → h₄.get? c = some o := fun c o h1 h2 h3 z => hs₄ c o h3 (up₃ c o h1 h2 z)
    obtain ⟨⟨old₃, he₃⟩, hit₃, hl₃⟩ := hst₃
    have he₄ : EnumAt h₄ e itr .none ((i : Nat) + 1 : Nat) old₃ := hs₄ e _ (Ne.symm hCe) he₃
    have hit₄ : h₄.IsTupleIter itr l (i + 1) := by obtain ⟨o, z, r⟩ := hit₃; exact ⟨o, hs₄ _ o (Ne.symm hCi) z, r⟩
    have hl₄ : h₄.IsTuple l vs.toArray := by obtain ⟨o, z, r⟩ := hl₃; exact ⟨o, hs₄ _ o (Ne.symm hCl) z, r⟩
    have hD₄ := up₄ D _ hDe hDi (Ne.symm hCD) hD'
    have hT₄ : ∀ p ∈ tl, h₄.get? p.1 = some p.2 ∧ lo ≤ p.1 := fun p hp => ⟨up₄ _ _ (fun q => by have := (hT p hp).2; rw [q] at this; exact Nat.lt_irrefl _ (Nat.lt_of_lt_of_le helo this))
      (fun q => by have := (hT p hp).2; rw [q] at this; exact Nat.lt_irrefl _ (Nat.lt_of_lt_of_le hilo this)) (fun q => by have := (hT p hp).2; rw [q] at this; exact Nat.lt_irrefl _ (Nat.lt_of_lt_of_le hClo this)) (hT p hp).1, (hT p hp).2⟩
    have hlo₄ : lo ≤ h₄.objs.size := by
      obtain ⟨o, z, _⟩ := hT₃
      have := Heap.lt_size (hs₄ T o (fun q => by
        have h1 : lo ≤ T := Nat.le_trans hlo' hTlo
        rw [q] at h1; exact Nat.lt_irrefl _ (Nat.lt_of_lt_of_le hClo h1)) z)
      exact Nat.le_trans hlo' (Nat.le_trans hTlo (Nat.le_of_lt this))
    have hkeep₄ : ∀ b o, b ≠ e → b ≠ itr → b ≠ C → b ≠ D → s₂.heap.get? b = some o → h₄.get? b = some o := fun b o h1 h2 h3 h4 z => up₄ b o h1 h2 h3 (hkeep b o h1 h2 h3 h4 z)
    refine ifInt (i := c) (t := tc) (fun R hR => ldVarK hn₄ (by simp) hR hks hkb hdb) ?_
    by_cases hc : c = 0
    · subst hc
      simp only [bne_self_eq_false, Bool.false_eq_true, if_false]
      refine ⟨vs.length + 1 - (i + 1), by omega, h₄, tk₄, i + 1, tl, _, rfl, hlt, rfl, Nat.le_succ_of_le hyl, ⟨_, he₄⟩, hit₄, hl₄, hn₄, hD₄, ?_, hT₄, hlo₄, hkeep₄⟩
      simp only [McN, hx', if_true]; exact hM
    · rw [show (c != 0) = true by simpa using hc]
      simp only [if_true]
      refine wpAny_Tuple (spliced_more (ldVarK hn₄ (x := a) (v := .int i t) (by simp [hab]) (spliced_more (ldVarK hn₄ (x := b) (v := .int c tc) (by simp) (spliced_none ⟨by show 2 ≤ sizeLine; decide, ?_⟩) hks hkb hdb)) hks hka hda))
      have hD₅ := Heap.get?_push_of_some { cls := .type "tuple", data := .seq [Value.int i t, Value.int c tc].toArray } hD₄
      refine append_at (hsz := by show (refsOf tl).toArray.size ≤ sizeLine; simp; omega) hD₅ fun h₆ hs₆ hD₆ => ?_
      have hnew : (h₄.push { cls := .type "tuple", data := .seq [Value.int i t, Value.int c tc].toArray }).get? h₄.objs.size = some (pairO i t (.int c tc)) := Heap.get?_push_size _ rfl
      have hDlt : D < h₄.objs.size := Heap.lt_size hD₄
      have up₆ : ∀ b o, b ≠ D → h₄.get? b = some o → h₆.get? b = some o := fun b o hb z => hs₆.extBut b o hb (Heap.get?_push_of_some _ z)
      refine ⟨vs.length + 1 - (i + 1), by omega, h₆, _, i + 1, tl ++ [(h₄.objs.size, pairO i t (.int c tc))], _, rfl, hlt, rfl, by simp; omega, ⟨_, up₆ _ _ (Ne.symm hDe) he₄⟩, ?_, ?_, hn₄.at' fun o z => up₆ _ o hCD z, ?_, ?_, ?_, ?_, fun b o h1 h2 h3 h4 z => up₆ b o h4 (hkeep₄ b o h1 h2 h3 h4 z)⟩
      · obtain ⟨o, z, r⟩ := hit₄; exact ⟨o, up₆ _ o (Ne.symm hDi) z, r⟩
      · obtain ⟨o, z, r⟩ := hl₄; exact ⟨o, up₆ _ o (Ne.symm hDl) z, r⟩
      · rw [hD₆, lst_snoc]; simp [refsOf]
      · simp only [McN, hx', hc, if_false]
        exact ⟨tl, _, _, rfl, hM⟩
      · intro p hp
        rcases List.mem_append.mp hp with hp | hp
        · exact ⟨up₆ _ _ (fun q => by have := (hT₄ p hp).2; rw [q] at this; exact Nat.lt_irrefl _ (Nat.lt_of_lt_of_le hDlo this)) (hT₄ p hp).1, (hT₄ p hp).2⟩
        · rw [List.mem_singleton.mp hp]
          exact ⟨hs₆.extBut _ _ (Nat.ne_of_gt hDlt) hnew, hlo₄⟩
      · rw [hs₆.1, Heap.size_push]; exact Nat.le_succ_of_le hlo₄
  · obtain rfl : i = vs.length := Nat.le_antisymm hi (Nat.not_lt.mp hlt)
    refine W.done _ _ _ ⟨he', hit', hl'⟩ fun h₂ tk₂ hk₂ => ?_
    have up₂ : ∀ b o, b ≠ e → b ≠ itr → h'.get? b = some o → h₂.get? b = some o := fun b o h1 h2 z => hk₂ b o (by simp [h1, h2]) z
    exact hR h₂ tk₂ tl m' (fun b o h1 h2 h3 h4 z => up₂ b o h1 h2 (hkeep b o h1 h2 h3 h4 z)) (hn'.at' fun o z => up₂ _ o hCe hCi z) (up₂ _ _ hDe hDi hD') hM
      fun p hp => ⟨up₂ _ _ (fun q => by have := (hT p hp).2; rw [q] at this; exact Nat.lt_irrefl _ (Nat.lt_of_lt_of_le helo this)) (fun q => by have := (hT p hp).2; rw [q] at this; exact Nat.lt_irrefl _ (Nat.lt_of_lt_of_le hilo this)) (hT p hp).1, (hT p hp).2⟩
end
end Mine

end

section
open PySem PySem.W PyProof.Rows PySem.Calls PyProof.Rows.LCg
open Sem (wp)
set_option Elab.async false
set_option maxRecDepth 100000
namespace Mine
/-- the code's own table, as it stands at a moment -/
def Tab (h : Heap) (c P : Addr) (ps : Array Value) : Prop := h.IsCode c P ps ∧ h.TableAt c P ps
theorem Tab.keeps {h h' : Heap} {c P : Addr} {ps : Array Value} (T : Tab h c P ps) (hk : ∀ b o, h.get? b = some o → h'.get? b = some o) : Tab h' c P ps := ⟨T.1.keeps hk, T.2.keeps hk⟩

/-- a generator that stands ready: n items, each as F says -/
def Ready (prog : Program) (w : World) (A : Around) (lo : Nat) (a : Addr) (n : Nat) (F : Nat → Value → Prop) (s : Shared) : Prop :=
  ∃ fp wr g St, WalksS prog w A.in4 a fp wr (GenOnlyQ g) n F St ∧ St 0 s ∧ (∀ i s', St i s' → s'.TypeIs (.ref a) "generator") ∧ a ∈ fp ∧ (∀ b ∈ fp, b < s.heap.objs.size) ∧ ∀ b ∈ wr, lo ≤ b

section
variable {prog : Program} {w : World} {A : Around} {E : Value → Shared → Prop} {s : Shared}

theorem codeEither {env : Env} {c P : Addr} {ps : Array Value} {pos : Pos} {qualname : Str} {scope : Scope} {Q : Value → Shared → Prop} (hc : env.code = .ref c) (hT : Tab s.heap c P ps)
    (hQ : ∀ cv h' tk more, Heap.ExtBut P s.heap h' → Tab h' c P (ps ++ more) → Q cv { s with heap := h', toks := tk }) : wpAny (model prog w) A (genexprCode env pos qualname scope) Q E s := by
  cases hnf : codeAmong pos ps.toList with
  | none => exact wpAny_genexprCodeX hc hT.1 hT.2 hnf fun c' h' tk hx _ _ h1 _ h2 _ => hQ _ h' tk _ hx ⟨h1, h2⟩
  | some cv => exact wpAny_genexprCode_hit hc hT.1 hnf (hQ cv s.heap s.toks #[] (Heap.ExtBut.refl _ _) (by rw [Array.append_empty]; exact hT))

theorem genExp {env : Env} {c P l : Addr} {ps : Array Value} {elt iter : Expr} {x : Str} {px : Pos} {scope : Scope} {cl : List (Str × Addr)} {pos : Pos} {vs : List Value} {mg : Str → Option Value} {bm : Addr} {ob : Obj} {Q : Value → Shared → Prop}
    (hh : A.handled = none) (hcode : env.code = .ref c) (hco : scope.isCoroutine = false) (hclos : closureFor scope env = pure cl) (hcell : ∀ y ∈ scope.names, y.2 ≠ .cell)
    (h0 : scope.names.lookup (".0" : Str) = some NameKind.local) (hx : scope.names.lookup x = some .local) (hkind : scope.kind = .function) (hroom : A.depth < recursionLimit)
    (hT : Tab s.heap c P ps) (hlim : s.heap.NoLimit) (hPs : P ≠ cStatics) (M : BMod s.heap env.globals mg bm ob) (hl : s.heap.IsList l vs.toArray) (hG : AllBare s.gens)
    (hiter : ∀ R : Value → Shared → Prop, R (.ref l) s → wpAny (model prog w) A (eval iter env) R E s) (hs : ∀ x, genFold iter env x = pure x) (F : Nat → Value → Prop)
    (helt : ∀ (C : Addr) (cv : Value) (A' : Around) (E' : Value → Shared → Prop) (i : Nat) (v : Value) (t : Shared) (m₂ : Str → Option Value), A'.handled = none → vs[i]? = some v → t.heap.Ns C m₂ → m₂ x = some v → s.heap.objs.size ≤ C →
      (∀ b o, b ≠ P → s.heap.get? b = some o → t.heap.get? b = some o) → wpAny (model prog w) A' (eval elt (genEnv scope cl C cv builtinsNs env)) (fun y s₃ => F i y ∧ Keeps t s₃) E' t)
    (hQ : ∀ (a : Addr) (s₅ : Shared) (more : Array Value), (∀ b o, b ≠ P → s.heap.get? b = some o → s₅.heap.get? b = some o) → Tab s₅.heap c P (ps ++ more) → AllBare s₅.gens → s₅.os = s.os →
      Ready prog w A s.heap.objs.size a vs.length F s₅ → Q (.ref a) s₅) :
    wpAny (model prog w) A (eval (.GeneratorExp elt [⟨.Name x px, iter, [], 0⟩] scope pos) env) Q E s := by
  have hlt : l < s.heap.objs.size := by obtain ⟨_, z, _⟩ := hl; exact Heap.lt_size z
  have hPlt : P < s.heap.objs.size := Heap.lt_size hT.2.2
  have hlP : l ≠ P := fun q => by
    obtain ⟨o, ho, hc, _⟩ := hl
    rw [q, hT.2.2] at ho; cases ho; cases hc
  refine wpAny_GeneratorExp_walksQD hh hco hclos hcell h0 hx hkind hroom (hiter _ ?_) hs
  refine wpAny_pyIter_list hl ?_
  generalize hI0 : s.heap.objs.size = I at *
  generalize hH1 : s.heap.push { cls := .type "list_iterator", data := .fields #[.ref l, .int 0 0] } = H1
  have up1 : ∀ b o, s.heap.get? b = some o → H1.get? b = some o := fun b o z => hH1 ▸ Heap.get?_push_of_some _ z
  have hI1 : H1.IsListIter I l 0 := ⟨_, by rw [← hH1, ← hI0]; exact Heap.get?_push_size _ rfl, rfl, rfl⟩
  have hl1 : H1.IsList l vs.toArray := by obtain ⟨o, z, r⟩ := hl; exact ⟨o, up1 _ _ z, r⟩
  have hIP : I ≠ P := Nat.ne_of_gt hPlt
  refine ⟨hlim.keeps up1, codeEither hcode (hT.keeps up1) fun cv h₃ tk₃ more hx₃ hT₃ => ?_⟩
  have M₃ : BMod h₃ env.globals mg bm ob := (M.keeps up1).extBut (hT.keeps up1).2 hx₃
  have hl₃ : h₃.NoLimit := (hlim.keeps up1).extBut hx₃ (Ne.symm hPs)
  have hIt₃ : h₃.IsListIter I l 0 := by obtain ⟨o, z, r⟩ := hI1; exact ⟨o, hx₃ _ _ hIP z, r⟩
  have hll₃ : h₃.IsList l vs.toArray := by obtain ⟨o, z, r⟩ := hl1; exact ⟨o, hx₃ _ _ hlP z, r⟩
  have hI₃ : I < h₃.objs.size := by obtain ⟨_, z, _⟩ := hIt₃; exact Heap.lt_size z
  have hl₃lt : l < h₃.objs.size := Nat.lt_trans hlt hI₃
  refine wpAny_builtinsFor M₃.ns M₃.name M₃.ne M₃.obj M₃.cls M₃.dict M₃.data ?_
  refine ⟨I, [I, l], [I], vs.toArray.size, _, _, (fun _ => true), F, rfl, (fun A' hA => Walks.list hA I l (Nat.ne_of_lt hlt) vs.toArray), ⟨hIt₃, hll₃⟩, ?_, hl₃, ?_, ?_, ?_⟩
  · intro b hb
    rcases List.mem_cons.mp hb with rfl | hb
    · exact hI₃
    · rw [List.mem_singleton.mp hb]; exact hl₃lt
  · intro hb
    have q := List.mem_singleton.mp hb
    have hcs : cStatics < s.heap.objs.size := by obtain ⟨_, hn, _⟩ := hlim; exact hn.lt
    rw [hI0, q] at hcs; exact Nat.lt_irrefl _ hcs
  · intro href hkr
    refine ⟨fun A' E' i v t m₂ hA _ _ hv hn hm hk => ?_, fun A' E' i v t m₂ hA _ _ hv _ hn hm hk => ?_⟩
    · show wpAny _ _ (forIn [] true _) _ _ _
      exact wpAny_pure ⟨rfl, t.heap, t.toks, rfl, fun _ _ z => z⟩
    · refine helt _ cv A' E' i v t m₂ hA (by simpa using hv) hn hm (Nat.le_of_lt hI₃) fun b o hb z => ?_
      have hbI : b ≠ I := fun q => by rw [q, ← hI0] at z; exact Nat.lt_irrefl _ (Heap.lt_size z)
      exact hk b (List.mem_range.mpr (Heap.lt_size (hx₃ b o hb (up1 b o z)))) (by simpa using hbI) o (hkr b o (hx₃ b o hb (up1 b o z)))
  · intro a h₅ tk gs hgb hag hsz₅ hk₅ W hat
    have hpass : passing (fun _ => true) vs.toArray.size 0 = List.range vs.length := by simp [passing]
    rw [hpass] at W
    have hlen : (List.range vs.length).length = vs.length := by simp
    rw [hlen] at W
    refine hQ a _ more (fun b o hb z => hk₅ b o (hx₃ b o hb (up1 b o z))) (hT₃.keeps hk₅) (hG.push hgb) rfl ⟨_, _, _, _, W.imp fun j y hy => ?_, hat, (fun i s' st => st.1.typeIs), List.mem_cons_self, ?_, ?_⟩
    · obtain ⟨i, hi, hF⟩ := hy
      rw [List.getElem?_eq_some_iff] at hi
      obtain ⟨h1, h2⟩ := hi
      rw [List.getElem_range] at h2
      exact h2 ▸ hF
    · intro b hb
      show b < h₅.objs.size
      rw [hsz₅]
      rcases List.mem_cons.mp hb with rfl | hb
      · exact Nat.lt_succ_self _
      · rcases List.mem_cons.mp hb with rfl | hb
        · exact Nat.lt_succ_of_lt hag
        · exact Nat.lt_succ_of_lt (Nat.lt_trans (List.mem_range.mp hb) hag)
    · intro b hb
      rcases List.mem_cons.mp hb with rfl | hb
      · exact Nat.le_of_lt hI₃
      · rw [List.mem_singleton.mp hb]; exact Nat.le_refl _

theorem tupReady {Q : Value → Shared → Prop} {lo : Nat} {a : Addr} {n : Nat} {F : Nat → Value → Prop} (R : Ready prog w A lo a n F s) (hn : n ≤ sizeLine) (hG : AllBare s.gens)
    (hQ : ∀ (s' : Shared) (D : Addr) (ys : List Value), (∀ b o, b < lo → s.heap.get? b = some o → s'.heap.get? b = some o) → AllBare s'.gens → s'.os = s.os → s'.heap.get? D = some { cls := .type "tuple", data := .seq ys.toArray } → (∀ b o, b < lo → s.heap.get? b = some o → b < D) →
      ys.length = n → (∀ j v, ys[j]? = some v → F j v) → Q (.ref D) s') : wpAny (model prog w) A (call (.type "tuple") [.ref a]) Q E s := by
  obtain ⟨fp, wr, g, St, W, hst, hTy, hI, hfp, hwr⟩ := R
  refine call_tuple_gen (hsz := hn) W.in4_3 hTy hst hfp hI fun s' acc hm hacc => ?_
  have up : ∀ b o, b < lo → s.heap.get? b = some o → s'.heap.get? b = some o := fun b o hb z => hm.heap b o (fun hw => Nat.lt_irrefl _ (Nat.lt_of_lt_of_le hb (hwr b hw))) z
  refine hQ _ _ acc.toList (fun b o hb z => Heap.get?_push_of_some _ (up b o hb z)) (show AllBare s'.gens from AllBare.movedS hG hm) hm.os (by simpa using Heap.get?_push_size _ rfl) (fun b o hb z => Heap.lt_size (up b o hb z)) (by simpa using hacc.1) fun j v hv => ?_
  exact hacc.2 j v (by simpa using hv)
end
end Mine

end

section
open PySem PySem.W PyProof.Rows PySem.Calls PyProof.Rows.LCg
open Sem (wp)
set_option Elab.async false
set_option maxRecDepth 100000
namespace Mine
section
variable {prog : Program} {w : World} {A : Around} {E : Value → Shared → Prop} {s : Shared} {env : Env} {h₀ : Heap} {L : Addr} {m : Str → Option Value} {news : List (Addr × Obj)}

theorem mcEval {l : Addr} {vs : List Value} {iter : Expr} {a b : Str} {pa pb tp pc pa' pb' tp' : Pos} {kk kk' : Nat} {scope : Scope} {cl : List (Str × Addr)} {pos : Pos} {Q : Value → Shared → Prop}
    (F : Fr h₀ L s.heap m) (N : News h₀ L s.heap news) (hl : s.heap.IsTuple l vs.toArray) (hvs : ∀ v ∈ vs, ∃ c t, v = .int c t) (hsz : vs.length ≤ sizeLine)
    (hcall : ∀ R : Value → Shared → Prop, wpAny (model prog w) A (call (.type "enumerate") [.ref l]) R E s → wpAny (model prog w) A (eval iter env) R E s)
    (h : ∀ h' tk D tl, Fr h₀ L h' m → News h₀ L h' ((D, lst (refsOf tl)) :: (tl ++ news)) → (∀ p ∈ news, p.1 < D) → (∀ p ∈ tl, D < p.1) → McN vs vs.length tl → Q (.ref D) { s with heap := h', toks := tk })
    (hh : A.handled = none) (hclos : closureFor scope env = pure cl) (hcell : ∀ y ∈ scope.names, y.2 ≠ .cell) (hkind : scope.kind = .function)
    (hnames : ∀ y ∈ scope.names, y.2 = .local → scope.names.lookup y.1 = some .local) (hxa : scope.names.lookup a = some .local) (hxb : scope.names.lookup b = some .local) (hab : ¬ a = b)
    (hda : (a == ("__debug__" : Str)) = false) (hdb : (b == ("__debug__" : Str)) = false)
    (hs : ∀ x, foldedSetIterable iter env x = pure x := by intro _; rfl) :
    wpAny (model prog w) A (eval (.ListComp (.Tuple [.Name a pa', .Name b pb'] kk' tp') [⟨.Tuple [.Name a pa, .Name b pb] kk tp, iter, [.Name b pc], 0⟩] scope pos) env) Q E s := by
  rw [eval_ListComp]
  have hlt : l < s.heap.objs.size := by obtain ⟨_, z, _⟩ := hl; exact Heap.lt_size z
  refine wpAny_comprehension_free (use := none) rfl hs hclos hkind hnames (hcall _ (callEnum hl fun h₁ he hit hz1 up1 => iterEnum he ?_))
  generalize hI0 : s.heap.objs.size = I at he hit hz1 hlt
  have hIe : I + 1 ≠ I := Nat.succ_ne_self _
  refine wpAny_newObj_type (wpAny_newFunctionEnv hcell (by intro y hy; simp at hy) (fun h₂ hns₂ hsb₂ => ?_) hkind)
  dsimp only at hns₂ hsb₂ ⊢
  generalize hH2 : h₁.push { cls := .type "list", dict := none, data := .seq ([] : List Value).toArray } = H2 at hns₂ hsb₂ ⊢
  have hC : H2.objs.size = I + 3 := by rw [← hH2, Heap.size_push, hz1]
  have upH : ∀ b o, h₁.get? b = some o → H2.get? b = some o := fun b o z => hH2 ▸ Heap.get?_push_of_some _ z
  have up2 : ∀ b o, b < I + 3 → H2.get? b = some o → h₂.get? b = some o := fun b o hb z => hsb₂.extBut b o (by rw [hC]; exact Nat.ne_of_lt hb) (Heap.get?_push_of_some _ z)
  have hD₁ : H2.get? h₁.objs.size = some (lst []) := by rw [← hH2]; exact Heap.get?_push_size _ rfl
  rw [hz1] at hD₁
  have old : ∀ b o, s.heap.get? b = some o → h₂.get? b = some o := fun b o z => up2 b o (by have := Heap.lt_size z; rw [hI0] at this; exact Nat.lt_of_lt_of_le this (by omega)) (upH b o (up1 b o z))
  have he₂ : EnumAt h₂ (I + 1) I .none 0 .none := up2 _ _ (by omega) (upH _ _ he)
  have hit₂ : h₂.IsTupleIter I l 0 := by obtain ⟨o, z, r⟩ := hit; exact ⟨o, up2 _ _ (by omega) (upH _ _ z), r⟩
  have hl₂ : h₂.IsTuple l vs.toArray := by obtain ⟨o, z, r⟩ := hl; exact ⟨o, old _ _ z, r⟩
  have hz₂ : h₂.objs.size = I + 4 := by rw [hsb₂.1, Heap.size_push, hC]
  rw [hC] at hns₂
  rw [hz1, hC]
  have hlI : ∀ k : Nat, (l : Nat) ≠ I + k := fun k => Nat.ne_of_lt (Nat.lt_of_lt_of_le hlt (Nat.le_add_right _ _))
  refine codeAny_compStart_list ?main (iterEnum he₂ ?main)
  refine mcLoop (C := I + 3) (D := I + 2) (lo := I + 4) (e := I + 1) (itr := I) (l := l) (vs := vs) hh hIe (hlI 1) (hlI 0) (by refine neN ?_; omega) (by refine neN ?_; omega) (Ne.symm (hlI 2)) (by refine neN ?_; omega) (by refine neN ?_; omega) (Ne.symm (hlI 3)) (by refine neN ?_; omega)
    (show I + 2 < I + 4 by omega) (show I + 3 < I + 4 by omega) (show I + 1 < I + 4 by omega) (show I < I + 4 by omega) hsz hvs hkind hxa hxb hab hda hdb _ (Nat.le_of_eq hz₂.symm) he₂ hit₂ hl₂ hns₂ (up2 _ _ (show I + 2 < I + 3 by omega) hD₁) ?_
  intro h' tk tl m' hk hn hD hM hT
  refine ⟨m', hn, fun h'' hs'' => ?_⟩
  have fin : ∀ b o, b ≠ I + 3 → h'.get? b = some o → h''.get? b = some o := fun b o hb z => hs''.extBut b o hb z
  have keep : ∀ b o, s.heap.get? b = some o → h''.get? b = some o := fun b o z => by
    have hb := Heap.lt_size z
    rw [hI0] at hb
    have hb' : ∀ k : Nat, (b : Nat) ≠ I + k := fun k => Nat.ne_of_lt (Nat.lt_of_lt_of_le hb (Nat.le_add_right _ _))
    exact fin b o (hb' 3) (hk b o (hb' 1) (hb' 0) (hb' 3) (hb' 2) (old b o z))
  have new : ∀ b, I ≤ b → b ≠ L ∧ h₀.get? b = none := fun b hb => by
    refine ⟨fun q => ?_, ?_⟩
    · have := F.ns.lt
      rw [hI0, ← q] at this
      exact Nat.lt_irrefl _ (Nat.lt_of_lt_of_le this hb)
    · cases e : h₀.get? b with
      | none => rfl
      | some o =>
        have := Heap.lt_size (F.keep b o e)
        rw [hI0] at this
        exact absurd this (Nat.not_lt.mpr hb)
  refine h h'' tk (I + 2) tl (F.keeps keep) (fun p hp => ?_) (fun p hp => ?_) (fun p hp => ?_) hM
  · rcases List.mem_cons.mp hp with rfl | hp
    · exact ⟨fin _ _ (by refine neN ?_; show I + 2 ≠ I + 3; omega) hD, new _ (Nat.le_add_right _ _)⟩
    · rcases List.mem_append.mp hp with hp | hp
      · have := hT p hp
        exact ⟨fin _ _ (fun q => by have h4 := this.2; rw [q] at h4; exact absurd h4 (by show ¬ I + 4 ≤ I + 3; omega)) this.1, new _ (Nat.le_trans (Nat.le_add_right _ _) this.2)⟩
      · exact ⟨keep _ _ (N p hp).1, (N p hp).2⟩
  · have := Heap.lt_size (N p hp).1
    rw [hI0] at this
    exact Nat.lt_of_lt_of_le this (Nat.le_add_right _ _)
  · exact Nat.lt_of_lt_of_le (show I + 2 < I + 4 by omega) (hT p hp).2
end
end Mine

end

section
open PySem PySem.W PyProof.Rows PySem.Calls PyProof.Rows.LCg
open Sem (wp)
set_option Elab.async false
set_option maxRecDepth 100000
namespace Mine
abbrev tabO (ps : Array Value) : Obj := { cls := .none, data := .fields ps }
abbrev tupO (vs : List Value) : Obj := { cls := .type "tuple", data := .seq vs.toArray }
theorem ne_allLt {d : Addr} {l : List (Addr × Obj)} (h : AllLt d l) : ∀ p ∈ l, p.1 ≠ d := by
  induction l with
  | nil => exact fun _ hp => nomatch hp
  | cons q r ih =>
    intro p hp
    rcases List.mem_cons.mp hp with e | hp
    · rw [e]; exact Nat.ne_of_lt h.1
    · exact ih h.2 p hp
theorem no65 (P : Params) : (hd.heap_1 P).lookup 65 = none := by with_unfolding_all rfl
theorem at67 (P : Params) : ∃ o vs file tf text, (hd.heap_1 P).lookup 67 = some o ∧ o.cls = .type "code" ∧ o.data = .fields vs ∧ vs.getD 11 .none = .ref 65 ∧ vs.getD 18 .none = .str file tf ∧ vs.getD 7 .none = .int 3 0 ∧ vs.getD 9 .none = .bool true ∧ vs.getD 10 .none = .int text 0 ∧ vs[11]? = some (.ref 65) :=
  ⟨_, _, _, _, _, by with_unfolding_all rfl, rfl, rfl, rfl, rfl, rfl, rfl, rfl, rfl⟩
theorem tab_of {w : World} {h : Heap} {ps : Array Value} (X : (hd.heap_1 w.params).In h) (h65 : h.get? 65 = some (tabO ps)) (ht : TriplesOk ps.toList) : Tab h 67 65 ps := by
  obtain ⟨o, vs, file, tf, text, hl, hc, hd, h11, h18, h7, h9, h10, h11'⟩ := at67 w.params
  have e := X 67 o hl
  exact ⟨⟨o, vs, file, tf, 3, 0, true, text, 0, _, e, hd, h11, h18, h7, h9, h10, h65, rfl, ht, by decide⟩, ⟨o, vs, e, hc, hd, h11'⟩, h65⟩
theorem tab_back {h : Heap} {ps : Array Value} (T : Tab h 67 65 ps) : h.get? 65 = some (tabO ps) ∧ TriplesOk ps.toList := by
  refine ⟨T.2.2, ?_⟩
  obtain ⟨_, _, _, _, _, _, _, _, _, op, _, _, _, _, _, _, _, h1, h2, h3, _⟩ := T.1
  exact h3
theorem bmod_of {p : Program} {loose : List Str} {mean : ExcName → Option Value} {mg mb : Str → Option Value} {h h' : Heap} (T : Top p loose mean mg mb h) (hk : ∀ b o, h.get? b = some o → h'.get? b = some o) : ∃ bm ob, BMod h' mainGlobals mg bm ob := by
  obtain ⟨bm, ob, h1, h2, h3, h4, h5, h6⟩ := T.bmain
  exact ⟨bm, ob, T.g.keeps hk, h1, h2, hk _ _ h3, h4, h5, h6⟩
section
variable {prog : Program} {w : World} {A : Around} {E : Value → Shared → Prop} {s : Shared}
/-- the element of __init__'s generator: the item by the field's modulus -/
theorem eltMod {K : Frag} {x dx C C₀ ca : Addr} {P c : Int} {tk tc : Tok} {nm fld sl : Str} {p1 p2 p3 p4 : Pos} {scope : Scope} {cl : List (Str × Addr)} {env : Env} {cv : Value} {es : List DictEntry} {n : Nat} {attr : Option Value} {m₂ : Str → Option Value}
    (hn : s.heap.Ns C m₂) (hm : m₂ nm = some (.int c tc)) (hcl : cl.lookup sl = some ca) (hcell : s.heap.IsCell ca (some (.ref x))) (X : K.In s.heap) (I : InstAt s.heap x (instObj C₀ dx) C₀ (some (dictOf es n)))
    (hg : plainGet K C₀ fld = true) (hh : hasDictIn K C₀ = true) (ha : findIn K (.ref C₀) fld = some attr) (hno : noGet K attr = true) (hl : getL fld es = some (some (.int P tk))) (hP : P ≠ 0)
    (hk : scope.kind = .function) (hlk : (genEnv scope cl C cv builtinsNs env).kindOf nm = some .local) (hfk : (genEnv scope cl C cv builtinsNs env).kindOf sl = some .free)
    (hd1 : (nm == ("__debug__" : Str)) = false) (hd2 : (sl == ("__debug__" : Str)) = false) (hd3 : (sl == ("__classdict__" : Str)) = false) :
    wpAny (model prog w) A (eval (.BinOp (.Name nm p1) .Mod (.Attribute (.Name sl p2) fld p3) p4) (genEnv scope cl C cv builtinsNs env)) (fun y s₃ => (∃ t', y = .int (c.fmod P) t') ∧ Keeps s s₃) E s := by
  refine wpAny_BinOp (wpAny_Name (wpAny_loadName_local hk hlk hn hm ?_) hd1)
  refine Attribute_Name_ (wpAny_Name (wpAny_loadName_free hk hfk hcl hcell ?_ hd3) hd2)
  refine get_value X I (plainGet_of hg).1 (findObj_own hh ha hno hl) rfl ?_
  refine mod_int' hP ?_
  exact ⟨⟨_, rfl⟩, s.heap, _, rfl, fun _ _ z => z⟩

/-- what a ledger becomes where the code's table alone has changed -/
theorem news65 {g h h' : Heap} {L : Addr} {m : Str → Option Value} {news : List (Addr × Obj)} {o' : Obj} (F : Fr g L h m) (N : News g L h news) (hk : ∀ b o, b ≠ 65 → h.get? b = some o → h'.get? b = some o)
    (h65 : h'.get? 65 = some o') (hg : g.get? 65 = none) (hL : (65 : Nat) ≠ L) :
    Fr g L h' m ∧ ∀ news', (∀ p ∈ news', p = (65, o') ∨ (p ∈ news ∧ @Ne Nat p.1 65)) → News g L h' news' := by
  refine ⟨⟨F.ns.at' fun o e => hk L o (fun q => hL q.symm) e, fun b o e => hk b o (fun q => by rw [q, hg] at e; cases e) (F.keep b o e), F.above⟩, fun news' hn p hp => ?_⟩
  rcases hn p hp with rfl | ⟨h1, h2⟩
  · exact ⟨h65, hL, hg⟩
  · exact ⟨hk _ _ h2 (N p h1).1, (N p h1).2⟩

theorem lt_addrs {lo : Nat} {news news' : List (Addr × Obj)} (h : ∀ p ∈ news, p.1 < lo) (e : news'.map (·.1) = news.map (·.1)) : ∀ p ∈ news', p.1 < lo := fun p hp => by
  have : p.1 ∈ news'.map (·.1) := List.mem_map.mpr ⟨p, hp, rfl⟩
  rw [e] at this
  obtain ⟨q, hq, hqe⟩ := List.mem_map.mp this
  exact hqe ▸ h q hq

/-- tuple(a ready generator), over a frame and a ledger -/
theorem tupK {g : Heap} {L : Addr} {m : Str → Option Value} {news : List (Addr × Obj)} {Q : Value → Shared → Prop} {lo : Nat} {a : Addr} {n : Nat} {Fp : Nat → Value → Prop} (F : Fr g L s.heap m) (N : News g L s.heap news)
    (hlo : ∀ p ∈ news, p.1 < lo) (hLlo : L < lo) (R : Ready prog w A lo a n Fp s) (hn : n ≤ sizeLine) (hG : AllBare s.gens)
    (hQ : ∀ (s' : Shared) (D : Addr) (ys : List Value), Fr g L s'.heap m → News g L s'.heap ((D, tupO ys) :: news) → (∀ p ∈ news, p.1 < D) → AllBare s'.gens → s'.os = s.os → ys.length = n → (∀ j v, ys[j]? = some v → Fp j v) → Q (.ref D) s') :
    wpAny (model prog w) A (call (.type "tuple") [.ref a]) Q E s := by
  refine tupReady R hn hG fun s' D ys hk hG' hos hD hlt hlen hF => ?_
  have hLD : L < D := by obtain ⟨oL, _, _, z, _⟩ := F.ns; exact hlt L oL hLlo z
  refine hQ s' D ys ⟨F.ns.at' fun o e => hk L o hLlo e, fun b o e => hk b o (Nat.lt_of_lt_of_le (Heap.lt_size e) (Nat.le_trans F.above (Nat.le_of_lt hLlo))) (F.keep b o e), F.above⟩ (fun p hp => ?_) (fun p hp => hlt _ _ (hlo p hp) (N p hp).1) hG' hos hlen hF
  rcases List.mem_cons.mp hp with rfl | hp
  · refine ⟨hD, Nat.ne_of_gt hLD, ?_⟩
    cases e : g.get? D with
    | none => rfl
    | some o => exact absurd (Nat.lt_of_lt_of_le (Heap.lt_size e) F.above) (Nat.not_lt.mpr (Nat.le_of_lt hLD))
  · exact ⟨hk _ _ (hlo p hp) (N p hp).1, (N p hp).2⟩
end
end Mine
namespace Mine
theorem newsSub {h₀ h : Heap} {L : Addr} {news news' : List (Addr × Obj)} (N : News h₀ L h news) (hs : ∀ p ∈ news', p ∈ news) : News h₀ L h news' := fun p hp => N p (hs p hp)
theorem mcTwo {tl : List (Addr × Obj)} {a b : Int} {ta tb : Tok} (h : ∃ tl', (∃ T t', tl = tl' ++ [(T, pairO 6 t' (.int b tb))]) ∧ ∃ T t', tl' = [(T, pairO 0 t' (.int a ta))]) :
    ∃ T0 u0 T6 u6, tl = [(T0, pairO 0 u0 (.int a ta)), (T6, pairO 6 u6 (.int b tb))] := by
  obtain ⟨tl', ⟨T6, u6, rfl⟩, T0, u0, rfl⟩ := h
  exact ⟨T0, u0, T6, u6, rfl⟩
theorem ints_of {P : Int} : ∀ {ys vs : List Value} {zs : List Int}, ys.length = vs.length → vs.map (fun v => match v with | .int c _ => c.fmod P | _ => 0) = zs →
    (∀ (j : Nat) (v : Value), ys[j]? = some v → ∃ c t t', vs[j]? = some (.int c t) ∧ v = .int (c.fmod P) t') → IntsAre ys zs
  | [], [], _, _, h, _ => by subst h; exact .nil
  | y :: ys, v :: vs, _, hl, h, hy => by
    subst h
    obtain ⟨c, t, t', h1, h2⟩ := hy 0 y rfl
    have h1' : v = .int c t := by simpa using h1
    subst h1' h2
    exact .cons _ _ (ints_of (by simpa using hl) rfl fun j v hv => hy (j + 1) v hv)
  | [], _ :: _, _, hl, _, _ => by simp at hl
  | _ :: _, [], _, hl, _, _ => by simp at hl
end Mine

end

section
open PySem PySem.W PyProof.Rows PySem.Calls
set_option Elab.async false
namespace Mine
def asK : List Addr := [2,3,15,17,18,20,21,22,24,25,27,28,29,31,32,34,35,36,37,38,39,40,41,42,43,45,46,48,49,50,52,53,55,56,64,67,68,69,71,72,74,75,76,79,80,81,84,85,86,88,89,91,92,93,96,97,98,100,101,103,104,105,108,109,110,112,113,115,116,117,120,121,122,125,126,127,129,130,132,133,134,136,137,139,140,141,143,144,146,147,148,151,152,153,155,156,158,159,160,161,163,164,166,167,168,170,171,173,174,175,176,177,178,179,182,189,191,192,194,195,196,198,199,201,202,203,204,205,206,209,211,212,214,215,216,218,219,221,222,223,225,226,228,229,230,232,233,235,236,237,240,241]
set_option maxRecDepth 100000 in
theorem asK_is : ∀ P, asK = (hd.heap_1 P).map (·.1) := fun _ => by kernel_rfl
noncomputable def hook2 : Hook :=
  ⟨List (Option Obj) × Option Obj, fun s => (asK.map s.heap.get?, s.heap.get? 65), fun w => ((hd.heap_1 w.params).map fun p => some p.2, some (tabO #[])),
    fun w h => InK hd.heap_1 w h ∧ h.get? 65 = some (tabO #[]), fun w s e => ⟨InK.of asK_is w s (congrArg Prod.fst e), congrArg Prod.snd e⟩, fun w h h' x k => ⟨InK.keeps w h h' x.1 k, k _ _ x.2⟩⟩
def pick6 (l : List Stmt) : List Stmt := [0, 3, 5, 6, 8, 9, 11, 12, 14, 15, 16, 17, 19, 20, 21].filterMap fun i => l[i]?
def view6 : Program := { PySem.Challenge.pw_kh0014_01 with main := { PySem.Challenge.pw_kh0014_01.main with body := pick6 PySem.Challenge.pw_kh0014_01.main.body } }
abbrev loose6 : List Str := [Str.ofString "neg_optimized_curve", Str.ofString "twist_optimized_curve", Str.ofString "field_properties", Str.ofString "FQP", Str.ofString "FQ2", Str.ofString "neg_optimized_curve2", Str.ofString "twist_optimized_curve2"]
abbrev row6 : OpenRow := PySem.Challenge.rw_kh0014_01.row
abbrev ends6 (w : World) : Prop := (openEnds treeTable row6.prog w 3566).map (fun s => (openSeen view6 loose6 (importedModules row6.prog.main.body) (fun s => xlAt view6 [] s && recOk (RowW.records row6.toRowW) s) true s, Hook.obs hook2 s)) = some (openGood view6 loose6, Hook.val hook2 w)
set_option maxRecDepth 100000 in
theorem left6F (w : World) : ends6 (w.withFollow "special-get-raises" false) := by kernel_rfl
set_option maxRecDepth 100000 in
theorem left6T (w : World) : ends6 (w.withFollow "special-get-raises" true) := by kernel_rfl
theorem left6 : LeftO row6.prog view6 loose6 (fun s => xlAt view6 [] s && recOk (RowW.records row6.toRowW) s) (Hook.obs hook2) (Hook.val hook2) 3566 := byRow2 "special-get-raises" (P := ends6) left6F left6T
end Mine

end

section
open PySem PySem.W PyProof.Rows PySem.Calls PyProof.Rows.LCg
open Sem (wp)
set_option Elab.async false
namespace Mine
abbrev dEnt (w : World) (n : String) (k : Tok) (v : Value) : DictEntry := { hash := PyData.keyHash w.params (Str.ofString n), key := Value.str (Str.ofString n) k, val := v }
abbrev fqD (w : World) (k1 k2 k3 k4 k5 : Tok) (P : Int) (tk : Tok) (mc D md : Addr) (deg : Int) (tkd : Tok) : Obj :=
  dictOf [dEnt w "field_modulus" k1 (.int P tk), dEnt w "mc_tuples" k2 (.ref mc), dEnt w "coeffs" k3 (.ref D), dEnt w "modulus_coeffs" k4 (.ref md), dEnt w "degree" k5 (.int deg tkd)] 5
local macro_rules | `(tactic| k_room) => `(tactic| ((try simp only [depth_under_make, depth_under_kw, depth_in1, depth_deeper, depth_caller]); (try dsimp only [ktrTop]); omega))
local macro_rules | `(tactic| k_all) => `(tactic| exact ne_allLt (by assumption))
local macro_rules | `(tactic| k_steps) => `(tactic| repeat' ((fail_if_success (with_reducible show wpAny _ _ (eval (Expr.ListComp _ _ _ _) _) _ _ _)); (fail_if_success (with_reducible show wpAny _ _ (eval (Expr.GeneratorExp _ _ _ _) _) _ _ _)); (fail_if_success (with_reducible show wpAny _ _ (call (Value.type "enumerate") _) _ _ _)); (fail_if_success (with_reducible show wpAny _ _ (call (Value.type "tuple") _) _ _ _)); first | (k_unfold; (try dsimp only)) | (k_end; wrow_close) | walk1 | (dsimp only; walk1) | (leave1; walk_say "STEP leave1"; try dsimp only) | fail "no step"))


set_option maxRecDepth 100000 in
set_option maxHeartbeats 4000000 in
theorem init2 {prog : Program} {w : World} {p : Program} {loose : List Str} {mean : ExcName → Option Value} {mg mb : Str → Option Value}
   {dp un : Nat} {gd : Option (List Code)} {cn : Str} {cs : Scope} {a : Addr} {ccd : Value} {cl : List (Str × Addr)} {outer : List Env} {A₀ : Around} {base h₀ : Heap} {L : Addr} {m : Str → Option Value} {s : Shared} {Q E : Value → Shared → Prop}
   (B : Below A₀ base outer h₀) (F : Fr h₀ L s.heap m) (X : (hd.heap_1 w.params).In h₀) (l : Addr) (nl : Nat) (md : Addr) (tm0 tm1 : Tok) (P : Int) (tk : Tok) (t0 t1 : Tok) (c0 c1 : Int) (ps : Array Value) (rest : List (Addr × Obj))
   (N : News h₀ L s.heap ((l, { cls := .type "list", data := .seq [.int c0 t0, .int c1 t1].toArray nl }) :: (md, tupO [.int 1 tm0, .int 0 tm1]) :: (65, tabO ps) :: rest)) (T : Top p loose mean mg mb h₀) (hk : cs.kind = .function)
   (hroom : dp + 5 < recursionLimit) (hG : AllBare s.gens) (hP : P ≠ 0) (ht : TriplesOk ps.toList) (hl65 : @Ne Nat l 65) (hm65 : @Ne Nat md 65) (hr65 : ∀ p ∈ rest, @Ne Nat p.1 65)
   (hQ : ∀ (s' : Shared) (x dx mc D T0 : Addr) (ys : List Value) (ps' : Array Value) (k1 k2 k3 k4 k5 tkd u0 : Tok), Fr h₀ L s'.heap m →
     News h₀ L s'.heap ((x, instObj 206 dx) :: (dx, fqD w k1 k2 k3 k4 k5 P tk mc D md 2 tkd) :: (D, tupO ys) :: (mc, lst [.ref T0]) :: (T0, pairO 0 u0 (.int 1 tm0)) :: (md, tupO [.int 1 tm0, .int 0 tm1]) :: (65, tabO ps') :: rest) →
     AllLt dx rest → @LT.lt Nat _ 65 dx → @LT.lt Nat _ md dx → @LT.lt Nat _ dx x → @LT.lt Nat _ x mc → @LT.lt Nat _ mc T0 → @LT.lt Nat _ T0 D → TriplesOk ps'.toList → AllBare s'.gens → s'.os = s.os → IntsAre ys [c0.fmod P, c1.fmod P] → Q (.ref x) s') :
   wpAny (model prog w) (ktrTop dp un gd cn cs L a ccd cl outer) (call (.ref 206) [.ref l, .ref md, .int P tk]) Q E s := by
  k_dflt (refine' call_cls (C := 206) ?k1 ?k2 ?k3 ?k4 ?k5 ?k6 ?_; (case k1 => k_asm); (case k2 => k_asm); (case k3 => k_asm); (case k4 => k_is); (case k5 => k_is); (case k6 => k_is); k_whole)
  intro x' d' h' F' N' l1 l2
  k_lt l1
  k_lt2 l2
  obtain ⟨la1, la2, la3, la4⟩ := l1
  k_dflt (refine' code_defC ?k1 ?k2 ?k3 ?k4 ?k5 ?kA ?kF ?kK ?k6 ?k7 ?k8 ?k9 ?kB ?kD ?_ ?c2 ?c3 ?c4; (case kA => exact rfl); (case kF => exact rfl); (case kK => assumption); (case k1 => k_asm); (case k2 => k_asm); (case k3 => k_asm); (case k4 => k_asm); (case k5 => k_asm); (case k6 => k_is); (case k7 => k_is); (case k8 => k_room); (case k9 => first | exact BindsTo.of_eq rfl | exact binds_K (by k_in) rfl (by k_is) rfl rfl rfl | fail "k_enter: no rule for these arguments"); (case kB => exact rfl); (case kD => decide +kernel); (case c2 => exact rfl); (case c3 => exact rfl); (case c4 => exact rfl); k_whole)
  intro g' L' h' tk' cells' FG' F' N' Y' B' X' T' l1
  k_lt l1
  k_cells Y'
  (try simp only [List.cons_append, List.nil_append] at N')
  (try dsimp only)
  (try k_lift B')
  (try k_fold)
  k_steps
  have X9 := X'.keeps (Fr.keep (by k_asm))
  k_dflt (refine' mcEval (l := md) (vs := [.int 1 tm0, .int 0 tm1]) ?F ?N ?hl ?hvs ?hsz ?hcall ?_ ?hh ?hclos ?hcell ?hkind ?hnames ?hxa ?hxb ?hab ?hda ?hdb)
  case F => k_asm
  case N => k_asm
  case hl => exact News.isTup (by k_asm) (by k_mem)
  case hvs => simp
  case hsz => (show 2 ≤ sizeLine; decide)
  case hh => rfl
  case hclos => rfl
  case hcell => decide
  case hkind => rfl
  case hnames => decide
  case hxa => rfl
  case hxb => rfl
  case hab => decide
  case hda => decide
  case hdb => decide
  case hcall =>
    intro R9 hR9
    k_steps
    exact hR9
  clear X9
  intro h' tk' D' tl' F' N' l1 l3 hM
  k_lt l1
  simp [McN] at hM
  obtain ⟨T0, u0, rfl⟩ := hM
  simp only [List.cons_append, List.nil_append, List.forall_mem_cons, List.map_cons, List.map_nil] at N' l3
  obtain ⟨l30, -⟩ := l3
  k_lt2 l30
  k_sweep
  k_steps
  rename Fr _ _ _ _ => F9
  rename News _ _ _ _ => N9
  obtain ⟨bm9, ob9, M9⟩ := bmod_of T' (Fr.keep F9)
  have X9 := X'.keeps (Fr.keep F9)
  k_dflt (refine' genExp (c := 67) (P := 65) (l := l) (ps := ps) (vs := [.int c0 t0, .int c1 t1]) (mg := mg) ?hh ?hcode ?hco ?hclos ?hcell ?h0 ?hx ?hkind ?hroom ?hT ?hlim ?hPs ?M ?hl ?hG ?hiter ?hs (fun i y => ∃ c t t', ([.int c0 t0, .int c1 t1] : List Value)[i]? = some (.int c t) ∧ y = .int (c.fmod P) t') ?helt ?hQ)
  case hh => rfl
  case hcode => rfl
  case hco => rfl
  case hclos => rfl
  case hcell => decide
  case h0 => rfl
  case hx => rfl
  case hkind => rfl
  case hroom => k_room
  case hT => exact tab_of X9 (N9 (65, tabO ps) (by k_mem)).1 ht
  case hlim => exact T'.nolimit.keeps (Fr.keep F9)
  case hPs => decide
  case M => exact M9
  case hl => exact News.isList (by k_asm) (by k_mem)
  case hG => exact hG
  case hiter => intro R9 hR9; k_steps; exact hR9
  case hs => intro _; rfl
  case helt =>
    intro C cv A' E' i v t m₂ hA hv hn hm hCs hk
    have hv' : ∃ c tc, v = .int c tc := by
      have := List.mem_of_getElem? hv
      simp at this
      rcases this with rfl | rfl <;> exact ⟨_, _, rfl⟩
    obtain ⟨c, tc, rfl⟩ := hv'
    have I9 : InstAt t.heap x' (instObj 206 d') 206 (some (dictOf [_, _] 2)) := ⟨hk _ _ (by k_ne) (N9 (x', _) (by k_mem)).1, rfl, rfl, hk _ _ (by k_ne) (N9 (d', _) (by k_mem)).1⟩
    have Xt : (hd.heap_1 w.params).In t.heap := fun b o e => hk b o (fun q => by rw [q, no65] at e; cases e) (X9 b o e)
    have hcell : t.heap.IsCell (L' + 1) (some (.ref x')) := ⟨_, hk _ _ (by k_ne) (N9 (L' + 1, _) (by k_mem)).1, by assumption⟩
    refine' wpAny_mono (eltMod (attr := none) (K := hd.heap_1 w.params) (fld := Str.ofString "field_modulus") (C₀ := 206) (P := P) hn hm rfl hcell Xt I9 ?g1 ?g2 ?g3 ?g4 ?g5 hP rfl rfl rfl (by decide) (by decide) (by decide)) (fun y s₃ h => ⟨⟨c, tc, h.1.choose, hv, h.1.choose_spec⟩, h.2⟩) fun _ _ e => e
    case g1 => k_is
    case g2 => k_is
    case g3 => k_is
    case g4 => k_is
    case g5 => k_get
  case hQ =>
    intro a5 s₅ more hk5 hT5 hG5 hos5 hR5
    obtain ⟨h65, ht5⟩ := tab_back hT5
    have hlo9 := fun (p : Addr × Obj) hp => Heap.lt_size (N9 p hp).1
    have hL9 := F9.ns.lt
    obtain ⟨F5, hN5⟩ := news65 F9 N9 hk5 h65 (N9 (65, _) (by k_mem)).2.2 (by k_ne)
    have N5 := hN5 ((D', lst [.ref T0]) :: (T0, _) :: (L' + 1, _) :: (x', _) :: (d', _) :: (l, _) :: (md, _) :: (65, tabO (ps ++ more)) :: rest) (by
      refine List.forall_mem_cons.mpr ⟨.inr ⟨by k_mem, by k_ne⟩, ?_⟩
      refine List.forall_mem_cons.mpr ⟨.inr ⟨by k_mem, by k_ne⟩, ?_⟩
      refine List.forall_mem_cons.mpr ⟨.inr ⟨by k_mem, by k_ne⟩, ?_⟩
      refine List.forall_mem_cons.mpr ⟨.inr ⟨by k_mem, by k_ne⟩, ?_⟩
      refine List.forall_mem_cons.mpr ⟨.inr ⟨by k_mem, by k_ne⟩, ?_⟩
      refine List.forall_mem_cons.mpr ⟨.inr ⟨by k_mem, by k_ne⟩, ?_⟩
      refine List.forall_mem_cons.mpr ⟨.inr ⟨by k_mem, by k_ne⟩, ?_⟩
      refine List.forall_mem_cons.mpr ⟨.inl rfl, fun p hp => .inr ⟨by repeat (first | exact hp | refine List.Mem.tail _ ?_), hr65 p hp⟩⟩)
    clear hN5
    k_steps
    k_dflt (refine' tupK ?F ?N ?hlo ?hLlo hR5 ?hn hG5 ?_)
    case F => exact F5
    case N => exact N5
    case hlo => exact lt_addrs hlo9 rfl
    case hLlo => exact hL9
    case hn => show 2 ≤ sizeLine; decide
    intro s6 D6 ys6 F6 N6 l6 hG6 hos6 hlen6 hys6
    k_lt l6
    clear F5 N5 F9 N9 hR5 X9 M9
    have hints : IntsAre ys6 [c0.fmod P, c1.fmod P] := ints_of hlen6 (by rfl) (fun j v hv => by
      obtain ⟨c, t, t', h1, h2⟩ := hys6 j v hv
      exact ⟨c, t, t', h1, h2⟩)
    k_steps
    refine call_tuple_tup (News.isTup (by k_asm) (by k_mem)) ?_
    k_steps
    rename Fr _ _ _ _ => Fz
    rename News _ _ _ _ => Nz
    k_dflt (refine' hQ _ x' d' D' D6 T0 ys6 (ps ++ more) ?_ ?_ ?_ ?_ ?_ ?_ u0 Fz (newsSub Nz ?sub) la4 la3 la2 l2 (by refine ltN ?_; omega) l30 (by refine ltN ?_; omega) ht5 hG6 (hos6.trans hos5) hints)
    case sub =>
      refine List.forall_mem_cons.mpr ⟨by k_mem, ?_⟩
      refine List.forall_mem_cons.mpr ⟨by k_mem, ?_⟩
      refine List.forall_mem_cons.mpr ⟨by k_mem, ?_⟩
      refine List.forall_mem_cons.mpr ⟨by k_mem, ?_⟩
      refine List.forall_mem_cons.mpr ⟨by k_mem, ?_⟩
      refine List.forall_mem_cons.mpr ⟨by k_mem, ?_⟩
      refine List.forall_mem_cons.mpr ⟨by k_mem, ?_⟩
      exact fun p hp => by repeat (first | exact hp | refine List.Mem.tail _ ?_)


set_option maxRecDepth 100000 in
set_option maxHeartbeats 4000000 in
theorem init39 {prog : Program} {w : World} {p : Program} {loose : List Str} {mean : ExcName → Option Value} {mg mb : Str → Option Value}
   {dp un : Nat} {gd : Option (List Code)} {cn : Str} {cs : Scope} {a : Addr} {ccd : Value} {cl : List (Str × Addr)} {outer : List Env} {A₀ : Around} {base h₀ : Heap} {L : Addr} {m : Str → Option Value} {s : Shared} {Q E : Value → Shared → Prop}
   (B : Below A₀ base outer h₀) (F : Fr h₀ L s.heap m) (X : (hd.heap_1 w.params).In h₀) (l : Addr) (nl : Nat)  (P : Int) (tk : Tok) (t0 t1 t2 t3 t4 t5 t6 t7 t8 t9 t10 t11 : Tok) (c0 c1 c2 c3 c4 c5 c6 c7 c8 c9 c10 c11 : Int) (ps : Array Value) (rest : List (Addr × Obj))
   (N : News h₀ L s.heap ((l, { cls := .type "list", data := .seq [.int c0 t0, .int c1 t1, .int c2 t2, .int c3 t3, .int c4 t4, .int c5 t5, .int c6 t6, .int c7 t7, .int c8 t8, .int c9 t9, .int c10 t10, .int c11 t11].toArray nl }) :: (65, tabO ps) :: rest)) (T : Top p loose mean mg mb h₀) (hk : cs.kind = .function)
   (hroom : dp + 5 < recursionLimit) (hG : AllBare s.gens) (hP : P ≠ 0) (ht : TriplesOk ps.toList) (hl65 : @Ne Nat l 65) (hr65 : ∀ p ∈ rest, @Ne Nat p.1 65)
   (hQ : ∀ (s' : Shared) (x dx mc D T0 T6 : Addr) (ys : List Value) (ps' : Array Value) (k1 k2 k3 k4 k5 tkd u0 u6 : Tok), Fr h₀ L s'.heap m →
     News h₀ L s'.heap ((x, instObj 177 dx) :: (dx, fqD w k1 k2 k3 k4 k5 P tk mc D 39 12 tkd) :: (D, tupO ys) :: (mc, lst [.ref T0, .ref T6]) :: (T0, pairO 0 u0 (.int 82 233)) :: (T6, pairO 6 u6 (.int (-18) 240)) :: (65, tabO ps') :: rest) →
     AllLt dx rest → @LT.lt Nat _ 65 dx → @LT.lt Nat _ dx x → @LT.lt Nat _ x mc → @LT.lt Nat _ mc T0 → @LT.lt Nat _ T0 D → @LT.lt Nat _ mc T6 → @LT.lt Nat _ T6 D → TriplesOk ps'.toList → AllBare s'.gens → s'.os = s.os → IntsAre ys [c0.fmod P, c1.fmod P, c2.fmod P, c3.fmod P, c4.fmod P, c5.fmod P, c6.fmod P, c7.fmod P, c8.fmod P, c9.fmod P, c10.fmod P, c11.fmod P] → Q (.ref x) s') :
   wpAny (model prog w) (ktrTop dp un gd cn cs L a ccd cl outer) (call (.ref 177) [.ref l, .ref 39, .int P tk]) Q E s := by
  k_dflt (refine' call_cls (C := 177) ?k1 ?k2 ?k3 ?k4 ?k5 ?k6 ?_; (case k1 => k_asm); (case k2 => k_asm); (case k3 => k_asm); (case k4 => k_is); (case k5 => k_is); (case k6 => k_is); k_whole)
  intro x' d' h' F' N' l1 l2
  k_lt l1
  k_lt2 l2
  obtain ⟨la1, la3, la4⟩ := l1
  k_dflt (refine' code_defC ?k1 ?k2 ?k3 ?k4 ?k5 ?kA ?kF ?kK ?k6 ?k7 ?k8 ?k9 ?kB ?kD ?_ ?c2 ?c3 ?c4; (case kA => exact rfl); (case kF => exact rfl); (case kK => assumption); (case k1 => k_asm); (case k2 => k_asm); (case k3 => k_asm); (case k4 => k_asm); (case k5 => k_asm); (case k6 => k_is); (case k7 => k_is); (case k8 => k_room); (case k9 => first | exact BindsTo.of_eq rfl | exact binds_K (by k_in) rfl (by k_is) rfl rfl rfl | fail "k_enter: no rule for these arguments"); (case kB => exact rfl); (case kD => decide +kernel); (case c2 => exact rfl); (case c3 => exact rfl); (case c4 => exact rfl); k_whole)
  intro g' L' h' tk' cells' FG' F' N' Y' B' X' T' l1
  k_lt l1
  k_cells Y'
  (try simp only [List.cons_append, List.nil_append] at N')
  (try dsimp only)
  (try k_lift B')
  (try k_fold)
  k_steps
  have X9 := X'.keeps (Fr.keep (by k_asm))
  k_dflt (refine' mcEval (l := 39) (vs := [.int 82 233, .int 0 234, .int 0 235, .int 0 236, .int 0 237, .int 0 238, .int (-18) 240, .int 0 241, .int 0 242, .int 0 243, .int 0 244, .int 0 245]) ?F ?N ?hl ?hvs ?hsz ?hcall ?_ ?hh ?hclos ?hcell ?hkind ?hnames ?hxa ?hxb ?hab ?hda ?hdb)
  case F => k_asm
  case N => k_asm
  case hl => exact ⟨_, X9 39 _ (by k_is), rfl, _, rfl⟩
  case hvs => simp
  case hsz => (show 12 ≤ sizeLine; decide)
  case hh => rfl
  case hclos => rfl
  case hcell => decide
  case hkind => rfl
  case hnames => decide
  case hxa => rfl
  case hxb => rfl
  case hab => decide
  case hda => decide
  case hdb => decide
  case hcall =>
    intro R9 hR9
    k_steps
    exact hR9
  clear X9
  intro h' tk' D' tl' F' N' l1 l3 hM
  k_lt l1
  simp [McN] at hM
  obtain ⟨T0, u0, T6, u6, rfl⟩ := (mcTwo hM)
  simp only [List.cons_append, List.nil_append, List.forall_mem_cons, List.map_cons, List.map_nil] at N' l3
  obtain ⟨l30, l36, -⟩ := l3
  k_lt2 l30
  k_lt2 l36
  k_sweep
  k_steps
  rename Fr _ _ _ _ => F9
  rename News _ _ _ _ => N9
  obtain ⟨bm9, ob9, M9⟩ := bmod_of T' (Fr.keep F9)
  have X9 := X'.keeps (Fr.keep F9)
  k_dflt (refine' genExp (c := 67) (P := 65) (l := l) (ps := ps) (vs := [.int c0 t0, .int c1 t1, .int c2 t2, .int c3 t3, .int c4 t4, .int c5 t5, .int c6 t6, .int c7 t7, .int c8 t8, .int c9 t9, .int c10 t10, .int c11 t11]) (mg := mg) ?hh ?hcode ?hco ?hclos ?hcell ?h0 ?hx ?hkind ?hroom ?hT ?hlim ?hPs ?M ?hl ?hG ?hiter ?hs (fun i y => ∃ c t t', ([.int c0 t0, .int c1 t1, .int c2 t2, .int c3 t3, .int c4 t4, .int c5 t5, .int c6 t6, .int c7 t7, .int c8 t8, .int c9 t9, .int c10 t10, .int c11 t11] : List Value)[i]? = some (.int c t) ∧ y = .int (c.fmod P) t') ?helt ?hQ)
  case hh => rfl
  case hcode => rfl
  case hco => rfl
  case hclos => rfl
  case hcell => decide
  case h0 => rfl
  case hx => rfl
  case hkind => rfl
  case hroom => k_room
  case hT => exact tab_of X9 (N9 (65, tabO ps) (by k_mem)).1 ht
  case hlim => exact T'.nolimit.keeps (Fr.keep F9)
  case hPs => decide
  case M => exact M9
  case hl => exact News.isList (by k_asm) (by k_mem)
  case hG => exact hG
  case hiter => intro R9 hR9; k_steps; exact hR9
  case hs => intro _; rfl
  case helt =>
    intro C cv A' E' i v t m₂ hA hv hn hm hCs hk
    have hv' : ∃ c tc, v = .int c tc := by
      have := List.mem_of_getElem? hv
      simp at this
      rcases this with rfl | rfl | rfl | rfl | rfl | rfl | rfl | rfl | rfl | rfl | rfl | rfl <;> exact ⟨_, _, rfl⟩
    obtain ⟨c, tc, rfl⟩ := hv'
    have I9 : InstAt t.heap x' (instObj 177 d') 177 (some (dictOf [_, _] 2)) := ⟨hk _ _ (by k_ne) (N9 (x', _) (by k_mem)).1, rfl, rfl, hk _ _ (by k_ne) (N9 (d', _) (by k_mem)).1⟩
    have Xt : (hd.heap_1 w.params).In t.heap := fun b o e => hk b o (fun q => by rw [q, no65] at e; cases e) (X9 b o e)
    have hcell : t.heap.IsCell (L' + 1) (some (.ref x')) := ⟨_, hk _ _ (by k_ne) (N9 (L' + 1, _) (by k_mem)).1, by assumption⟩
    refine' wpAny_mono (eltMod (attr := none) (K := hd.heap_1 w.params) (fld := Str.ofString "field_modulus") (C₀ := 177) (P := P) hn hm rfl hcell Xt I9 ?g1 ?g2 ?g3 ?g4 ?g5 hP rfl rfl rfl (by decide) (by decide) (by decide)) (fun y s₃ h => ⟨⟨c, tc, h.1.choose, hv, h.1.choose_spec⟩, h.2⟩) fun _ _ e => e
    case g1 => k_is
    case g2 => k_is
    case g3 => k_is
    case g4 => k_is
    case g5 => k_get
  case hQ =>
    intro a5 s₅ more hk5 hT5 hG5 hos5 hR5
    obtain ⟨h65, ht5⟩ := tab_back hT5
    have hlo9 := fun (p : Addr × Obj) hp => Heap.lt_size (N9 p hp).1
    have hL9 := F9.ns.lt
    obtain ⟨F5, hN5⟩ := news65 F9 N9 hk5 h65 (N9 (65, _) (by k_mem)).2.2 (by k_ne)
    have N5 := hN5 ((D', lst [.ref T0, .ref T6]) :: (T0, _) :: (T6, _) :: (L' + 1, _) :: (x', _) :: (d', _) :: (l, _) :: (65, tabO (ps ++ more)) :: rest) (by
      refine List.forall_mem_cons.mpr ⟨.inr ⟨by k_mem, by k_ne⟩, ?_⟩
      refine List.forall_mem_cons.mpr ⟨.inr ⟨by k_mem, by k_ne⟩, ?_⟩
      refine List.forall_mem_cons.mpr ⟨.inr ⟨by k_mem, by k_ne⟩, ?_⟩
      refine List.forall_mem_cons.mpr ⟨.inr ⟨by k_mem, by k_ne⟩, ?_⟩
      refine List.forall_mem_cons.mpr ⟨.inr ⟨by k_mem, by k_ne⟩, ?_⟩
      refine List.forall_mem_cons.mpr ⟨.inr ⟨by k_mem, by k_ne⟩, ?_⟩
      refine List.forall_mem_cons.mpr ⟨.inr ⟨by k_mem, by k_ne⟩, ?_⟩
      refine List.forall_mem_cons.mpr ⟨.inl rfl, fun p hp => .inr ⟨by repeat (first | exact hp | refine List.Mem.tail _ ?_), hr65 p hp⟩⟩)
    clear hN5
    k_steps
    k_dflt (refine' tupK ?F ?N ?hlo ?hLlo hR5 ?hn hG5 ?_)
    case F => exact F5
    case N => exact N5
    case hlo => exact lt_addrs hlo9 rfl
    case hLlo => exact hL9
    case hn => show 12 ≤ sizeLine; decide
    intro s6 D6 ys6 F6 N6 l6 hG6 hos6 hlen6 hys6
    k_lt l6
    clear F5 N5 F9 N9 hR5 X9 M9
    have hints : IntsAre ys6 [c0.fmod P, c1.fmod P, c2.fmod P, c3.fmod P, c4.fmod P, c5.fmod P, c6.fmod P, c7.fmod P, c8.fmod P, c9.fmod P, c10.fmod P, c11.fmod P] := ints_of hlen6 (by rfl) (fun j v hv => by
      obtain ⟨c, t, t', h1, h2⟩ := hys6 j v hv
      exact ⟨c, t, t', h1, h2⟩)
    k_steps
    refine call_tuple_tup (show IsTup _ 39 _ from ⟨_, (X'.keeps (Fr.keep (by k_asm))) 39 _ (by k_is), rfl, _, rfl⟩) ?_
    k_steps
    rename Fr _ _ _ _ => Fz
    rename News _ _ _ _ => Nz
    k_dflt (refine' hQ _ x' d' D' D6 T0 T6 ys6 (ps ++ more) ?_ ?_ ?_ ?_ ?_ ?_ u0 u6 Fz (newsSub Nz ?sub) la4 la3 l2 (by refine ltN ?_; omega) l30 (by refine ltN ?_; omega) l36 (by refine ltN ?_; omega) ht5 hG6 (hos6.trans hos5) hints)
    case sub =>
      refine List.forall_mem_cons.mpr ⟨by k_mem, ?_⟩
      refine List.forall_mem_cons.mpr ⟨by k_mem, ?_⟩
      refine List.forall_mem_cons.mpr ⟨by k_mem, ?_⟩
      refine List.forall_mem_cons.mpr ⟨by k_mem, ?_⟩
      refine List.forall_mem_cons.mpr ⟨by k_mem, ?_⟩
      refine List.forall_mem_cons.mpr ⟨by k_mem, ?_⟩
      refine List.forall_mem_cons.mpr ⟨by k_mem, ?_⟩
      exact fun p hp => by repeat (first | exact hp | refine List.Mem.tail _ ?_)


set_option maxRecDepth 100000 in
set_option maxHeartbeats 4000000 in
theorem init42 {prog : Program} {w : World} {p : Program} {loose : List Str} {mean : ExcName → Option Value} {mg mb : Str → Option Value}
   {dp un : Nat} {gd : Option (List Code)} {cn : Str} {cs : Scope} {a : Addr} {ccd : Value} {cl : List (Str × Addr)} {outer : List Env} {A₀ : Around} {base h₀ : Heap} {L : Addr} {m : Str → Option Value} {s : Shared} {Q E : Value → Shared → Prop}
   (B : Below A₀ base outer h₀) (F : Fr h₀ L s.heap m) (X : (hd.heap_1 w.params).In h₀) (l : Addr) (nl : Nat)  (P : Int) (tk : Tok) (t0 t1 t2 t3 t4 t5 t6 t7 t8 t9 t10 t11 : Tok) (c0 c1 c2 c3 c4 c5 c6 c7 c8 c9 c10 c11 : Int) (ps : Array Value) (rest : List (Addr × Obj))
   (N : News h₀ L s.heap ((l, { cls := .type "list", data := .seq [.int c0 t0, .int c1 t1, .int c2 t2, .int c3 t3, .int c4 t4, .int c5 t5, .int c6 t6, .int c7 t7, .int c8 t8, .int c9 t9, .int c10 t10, .int c11 t11].toArray nl }) :: (65, tabO ps) :: rest)) (T : Top p loose mean mg mb h₀) (hk : cs.kind = .function)
   (hroom : dp + 5 < recursionLimit) (hG : AllBare s.gens) (hP : P ≠ 0) (ht : TriplesOk ps.toList) (hl65 : @Ne Nat l 65) (hr65 : ∀ p ∈ rest, @Ne Nat p.1 65)
   (hQ : ∀ (s' : Shared) (x dx mc D T0 T6 : Addr) (ys : List Value) (ps' : Array Value) (k1 k2 k3 k4 k5 tkd u0 u6 : Tok), Fr h₀ L s'.heap m →
     News h₀ L s'.heap ((x, instObj 177 dx) :: (dx, fqD w k1 k2 k3 k4 k5 P tk mc D 42 12 tkd) :: (D, tupO ys) :: (mc, lst [.ref T0, .ref T6]) :: (T0, pairO 0 u0 (.int 2 256)) :: (T6, pairO 6 u6 (.int (-2) 263)) :: (65, tabO ps') :: rest) →
     AllLt dx rest → @LT.lt Nat _ 65 dx → @LT.lt Nat _ dx x → @LT.lt Nat _ x mc → @LT.lt Nat _ mc T0 → @LT.lt Nat _ T0 D → @LT.lt Nat _ mc T6 → @LT.lt Nat _ T6 D → TriplesOk ps'.toList → AllBare s'.gens → s'.os = s.os → IntsAre ys [c0.fmod P, c1.fmod P, c2.fmod P, c3.fmod P, c4.fmod P, c5.fmod P, c6.fmod P, c7.fmod P, c8.fmod P, c9.fmod P, c10.fmod P, c11.fmod P] → Q (.ref x) s') :
   wpAny (model prog w) (ktrTop dp un gd cn cs L a ccd cl outer) (call (.ref 177) [.ref l, .ref 42, .int P tk]) Q E s := by
  k_dflt (refine' call_cls (C := 177) ?k1 ?k2 ?k3 ?k4 ?k5 ?k6 ?_; (case k1 => k_asm); (case k2 => k_asm); (case k3 => k_asm); (case k4 => k_is); (case k5 => k_is); (case k6 => k_is); k_whole)
  intro x' d' h' F' N' l1 l2
  k_lt l1
  k_lt2 l2
  obtain ⟨la1, la3, la4⟩ := l1
  k_dflt (refine' code_defC ?k1 ?k2 ?k3 ?k4 ?k5 ?kA ?kF ?kK ?k6 ?k7 ?k8 ?k9 ?kB ?kD ?_ ?c2 ?c3 ?c4; (case kA => exact rfl); (case kF => exact rfl); (case kK => assumption); (case k1 => k_asm); (case k2 => k_asm); (case k3 => k_asm); (case k4 => k_asm); (case k5 => k_asm); (case k6 => k_is); (case k7 => k_is); (case k8 => k_room); (case k9 => first | exact BindsTo.of_eq rfl | exact binds_K (by k_in) rfl (by k_is) rfl rfl rfl | fail "k_enter: no rule for these arguments"); (case kB => exact rfl); (case kD => decide +kernel); (case c2 => exact rfl); (case c3 => exact rfl); (case c4 => exact rfl); k_whole)
  intro g' L' h' tk' cells' FG' F' N' Y' B' X' T' l1
  k_lt l1
  k_cells Y'
  (try simp only [List.cons_append, List.nil_append] at N')
  (try dsimp only)
  (try k_lift B')
  (try k_fold)
  k_steps
  have X9 := X'.keeps (Fr.keep (by k_asm))
  k_dflt (refine' mcEval (l := 42) (vs := [.int 2 256, .int 0 257, .int 0 258, .int 0 259, .int 0 260, .int 0 261, .int (-2) 263, .int 0 264, .int 0 265, .int 0 266, .int 0 267, .int 0 268]) ?F ?N ?hl ?hvs ?hsz ?hcall ?_ ?hh ?hclos ?hcell ?hkind ?hnames ?hxa ?hxb ?hab ?hda ?hdb)
  case F => k_asm
  case N => k_asm
  case hl => exact ⟨_, X9 42 _ (by k_is), rfl, _, rfl⟩
  case hvs => simp
  case hsz => (show 12 ≤ sizeLine; decide)
  case hh => rfl
  case hclos => rfl
  case hcell => decide
  case hkind => rfl
  case hnames => decide
  case hxa => rfl
  case hxb => rfl
  case hab => decide
  case hda => decide
  case hdb => decide
  case hcall =>
    intro R9 hR9
    k_steps
    exact hR9
  clear X9
  intro h' tk' D' tl' F' N' l1 l3 hM
  k_lt l1
  simp [McN] at hM
  obtain ⟨T0, u0, T6, u6, rfl⟩ := (mcTwo hM)
  simp only [List.cons_append, List.nil_append, List.forall_mem_cons, List.map_cons, List.map_nil] at N' l3
  obtain ⟨l30, l36, -⟩ := l3
  k_lt2 l30
  k_lt2 l36
  k_sweep
  k_steps
  rename Fr _ _ _ _ => F9
  rename News _ _ _ _ => N9
  obtain ⟨bm9, ob9, M9⟩ := bmod_of T' (Fr.keep F9)
  have X9 := X'.keeps (Fr.keep F9)
  k_dflt (refine' genExp (c := 67) (P := 65) (l := l) (ps := ps) (vs := [.int c0 t0, .int c1 t1, .int c2 t2, .int c3 t3, .int c4 t4, .int c5 t5, .int c6 t6, .int c7 t7, .int c8 t8, .int c9 t9, .int c10 t10, .int c11 t11]) (mg := mg) ?hh ?hcode ?hco ?hclos ?hcell ?h0 ?hx ?hkind ?hroom ?hT ?hlim ?hPs ?M ?hl ?hG ?hiter ?hs (fun i y => ∃ c t t', ([.int c0 t0, .int c1 t1, .int c2 t2, .int c3 t3, .int c4 t4, .int c5 t5, .int c6 t6, .int c7 t7, .int c8 t8, .int c9 t9, .int c10 t10, .int c11 t11] : List Value)[i]? = some (.int c t) ∧ y = .int (c.fmod P) t') ?helt ?hQ)
  case hh => rfl
  case hcode => rfl
  case hco => rfl
  case hclos => rfl
  case hcell => decide
  case h0 => rfl
  case hx => rfl
  case hkind => rfl
  case hroom => k_room
  case hT => exact tab_of X9 (N9 (65, tabO ps) (by k_mem)).1 ht
  case hlim => exact T'.nolimit.keeps (Fr.keep F9)
  case hPs => decide
  case M => exact M9
  case hl => exact News.isList (by k_asm) (by k_mem)
  case hG => exact hG
  case hiter => intro R9 hR9; k_steps; exact hR9
  case hs => intro _; rfl
  case helt =>
    intro C cv A' E' i v t m₂ hA hv hn hm hCs hk
    have hv' : ∃ c tc, v = .int c tc := by
      have := List.mem_of_getElem? hv
      simp at this
      rcases this with rfl | rfl | rfl | rfl | rfl | rfl | rfl | rfl | rfl | rfl | rfl | rfl <;> exact ⟨_, _, rfl⟩
    obtain ⟨c, tc, rfl⟩ := hv'
    have I9 : InstAt t.heap x' (instObj 177 d') 177 (some (dictOf [_, _] 2)) := ⟨hk _ _ (by k_ne) (N9 (x', _) (by k_mem)).1, rfl, rfl, hk _ _ (by k_ne) (N9 (d', _) (by k_mem)).1⟩
    have Xt : (hd.heap_1 w.params).In t.heap := fun b o e => hk b o (fun q => by rw [q, no65] at e; cases e) (X9 b o e)
    have hcell : t.heap.IsCell (L' + 1) (some (.ref x')) := ⟨_, hk _ _ (by k_ne) (N9 (L' + 1, _) (by k_mem)).1, by assumption⟩
    refine' wpAny_mono (eltMod (attr := none) (K := hd.heap_1 w.params) (fld := Str.ofString "field_modulus") (C₀ := 177) (P := P) hn hm rfl hcell Xt I9 ?g1 ?g2 ?g3 ?g4 ?g5 hP rfl rfl rfl (by decide) (by decide) (by decide)) (fun y s₃ h => ⟨⟨c, tc, h.1.choose, hv, h.1.choose_spec⟩, h.2⟩) fun _ _ e => e
    case g1 => k_is
    case g2 => k_is
    case g3 => k_is
    case g4 => k_is
    case g5 => k_get
  case hQ =>
    intro a5 s₅ more hk5 hT5 hG5 hos5 hR5
    obtain ⟨h65, ht5⟩ := tab_back hT5
    have hlo9 := fun (p : Addr × Obj) hp => Heap.lt_size (N9 p hp).1
    have hL9 := F9.ns.lt
    obtain ⟨F5, hN5⟩ := news65 F9 N9 hk5 h65 (N9 (65, _) (by k_mem)).2.2 (by k_ne)
    have N5 := hN5 ((D', lst [.ref T0, .ref T6]) :: (T0, _) :: (T6, _) :: (L' + 1, _) :: (x', _) :: (d', _) :: (l, _) :: (65, tabO (ps ++ more)) :: rest) (by
      refine List.forall_mem_cons.mpr ⟨.inr ⟨by k_mem, by k_ne⟩, ?_⟩
      refine List.forall_mem_cons.mpr ⟨.inr ⟨by k_mem, by k_ne⟩, ?_⟩
      refine List.forall_mem_cons.mpr ⟨.inr ⟨by k_mem, by k_ne⟩, ?_⟩
      refine List.forall_mem_cons.mpr ⟨.inr ⟨by k_mem, by k_ne⟩, ?_⟩
      refine List.forall_mem_cons.mpr ⟨.inr ⟨by k_mem, by k_ne⟩, ?_⟩
      refine List.forall_mem_cons.mpr ⟨.inr ⟨by k_mem, by k_ne⟩, ?_⟩
      refine List.forall_mem_cons.mpr ⟨.inr ⟨by k_mem, by k_ne⟩, ?_⟩
      refine List.forall_mem_cons.mpr ⟨.inl rfl, fun p hp => .inr ⟨by repeat (first | exact hp | refine List.Mem.tail _ ?_), hr65 p hp⟩⟩)
    clear hN5
    k_steps
    k_dflt (refine' tupK ?F ?N ?hlo ?hLlo hR5 ?hn hG5 ?_)
    case F => exact F5
    case N => exact N5
    case hlo => exact lt_addrs hlo9 rfl
    case hLlo => exact hL9
    case hn => show 12 ≤ sizeLine; decide
    intro s6 D6 ys6 F6 N6 l6 hG6 hos6 hlen6 hys6
    k_lt l6
    clear F5 N5 F9 N9 hR5 X9 M9
    have hints : IntsAre ys6 [c0.fmod P, c1.fmod P, c2.fmod P, c3.fmod P, c4.fmod P, c5.fmod P, c6.fmod P, c7.fmod P, c8.fmod P, c9.fmod P, c10.fmod P, c11.fmod P] := ints_of hlen6 (by rfl) (fun j v hv => by
      obtain ⟨c, t, t', h1, h2⟩ := hys6 j v hv
      exact ⟨c, t, t', h1, h2⟩)
    k_steps
    refine call_tuple_tup (show IsTup _ 42 _ from ⟨_, (X'.keeps (Fr.keep (by k_asm))) 42 _ (by k_is), rfl, _, rfl⟩) ?_
    k_steps
    rename Fr _ _ _ _ => Fz
    rename News _ _ _ _ => Nz
    k_dflt (refine' hQ _ x' d' D' D6 T0 T6 ys6 (ps ++ more) ?_ ?_ ?_ ?_ ?_ ?_ u0 u6 Fz (newsSub Nz ?sub) la4 la3 l2 (by refine ltN ?_; omega) l30 (by refine ltN ?_; omega) l36 (by refine ltN ?_; omega) ht5 hG6 (hos6.trans hos5) hints)
    case sub =>
      refine List.forall_mem_cons.mpr ⟨by k_mem, ?_⟩
      refine List.forall_mem_cons.mpr ⟨by k_mem, ?_⟩
      refine List.forall_mem_cons.mpr ⟨by k_mem, ?_⟩
      refine List.forall_mem_cons.mpr ⟨by k_mem, ?_⟩
      refine List.forall_mem_cons.mpr ⟨by k_mem, ?_⟩
      refine List.forall_mem_cons.mpr ⟨by k_mem, ?_⟩
      refine List.forall_mem_cons.mpr ⟨by k_mem, ?_⟩
      exact fun p hp => by repeat (first | exact hp | refine List.Mem.tail _ ?_)

end Mine

end

section
open PySem PySem.W PyProof.Rows PySem.Calls PyProof.Rows.LCg
open Sem (wp)
set_option Elab.async false
set_option maxRecDepth 100000
namespace Mine
/-- an entry taken out of a ledger -/
inductive Pick (p : Addr × Obj) : List (Addr × Obj) → List (Addr × Obj) → Prop
  | head {r} : Pick p (p :: r) r
  | tail {q r r'} : Pick p r r' → Pick p (q :: r) (q :: r')
theorem Pick.mem {p : Addr × Obj} {l r : List (Addr × Obj)} (h : Pick p l r) : p ∈ l ∧ ∀ q ∈ r, q ∈ l := by
  induction h with
  | head => exact ⟨List.mem_cons_self, fun q hq => List.mem_cons_of_mem _ hq⟩
  | tail _ ih => exact ⟨List.mem_cons_of_mem _ ih.1, fun q hq => (List.mem_cons.mp hq).elim (fun e => e ▸ List.mem_cons_self) fun h => List.mem_cons_of_mem _ (ih.2 q h)⟩

/-- a list or a tuple, as a source of items -/
def SeqO (o : Obj) (vs : List Value) : Prop := (o.cls = .type "list" ∨ o.cls = .type "tuple") ∧ ∃ n, o.data = .seq vs.toArray n

section
variable {prog : Program} {w : World} {A : Around} {E : Value → Shared → Prop} {s : Shared} {h₀ : Heap} {L : Addr} {m : Str → Option Value} {env : Env}

def UEnd (h₀ : Heap) (L : Addr) (m : Str → Option Value) (src : Addr × Obj) (I : Addr) (oI : Obj) (C : Addr) (oC : Obj) (D : Addr) (oD : Obj) (rest : Value → List (Addr × Obj) → Shared → Prop) (y : Value) (s₂ : Shared) : Prop :=
  ∃ news', Fr h₀ L s₂.heap m ∧ News h₀ L s₂.heap ((I, oI) :: (C, oC) :: (D, oD) :: news') ∧ Off3 I C D news' ∧ src ∈ news' ∧ rest y news' s₂
theorem UEnd.intro {src : Addr × Obj} {I C D : Addr} {oI oC oD : Obj} {rest : Value → List (Addr × Obj) → Shared → Prop} {y : Value} {all r1 r2 news' : List (Addr × Obj)} (F : Fr h₀ L s.heap m) (N : News h₀ L s.heap all)
    (p1 : Pick (I, oI) all r1) (p2 : Pick (C, oC) r1 r2) (p3 : Pick (D, oD) r2 news') (off : Off3 I C D news') (hs : src ∈ news') (r : rest y news' s) : UEnd h₀ L m src I oI C oC D oD rest y s :=
  ⟨news', F, fun p hp => by
    rcases List.mem_cons.mp hp with rfl | hp
    · exact N _ p1.mem.1
    · rcases List.mem_cons.mp hp with rfl | hp
      · exact N _ (p1.mem.2 _ p2.mem.1)
      · rcases List.mem_cons.mp hp with rfl | hp
        · exact N _ (p1.mem.2 _ (p2.mem.2 _ p3.mem.1))
        · exact N _ (p1.mem.2 _ (p2.mem.2 _ (p3.mem.2 _ hp))), off, hs, r⟩

def URest (prog : Program) (w : World) (A : Around) (h₀ : Heap) (L : Addr) (m : Str → Option Value) (env : Env) (elt : Expr) (x : Str) (scope : Scope) (cl : List (Str × Addr)) (src : Addr × Obj)
    (Fin : List Value → List (Addr × Obj) → Shared → Prop) : List Value → List Value → List (Addr × Obj) → Shared → Prop
  | [], ys, news, s => Fin ys news s
  | v :: r, ys, news, s => ∀ I oI C oC D m₂ h tk (E' : Value → Shared → Prop), NsObj oC m₂ → m₂ x = some v → Fr h₀ L h m → News h₀ L h ((I, oI) :: (C, oC) :: (D, lst ys) :: news) → Off3 I C D news → ((@Ne Nat I C) ∧ (@Ne Nat I D) ∧ (@Ne Nat C D)) →
      wpAny (model prog w) A (eval elt (compEnvC scope cl C env)) (UEnd h₀ L m src I oI C oC D (lst ys) (fun y news' s' => URest prog w A h₀ L m env elt x scope cl src Fin r (ys ++ [y]) news' s')) E' { s with heap := h, toks := tk }

theorem blockU {elt iter : Expr} {x : Str} {px : Pos} {scope : Scope} {cl : List (Str × Addr)} {pos : Pos} {s₂ : Shared} {I ax : Addr} {oax : Obj} {vs : List Value} {St : Nat → Heap → Prop} {news : List (Addr × Obj)}
    {Fin : List Value → List (Addr × Obj) → Shared → Prop} {RR : Value → Addr → Result → Shared → Prop}
    (W : Walks prog w A I [I, ax] [I] vs.length (fun i v => vs[i]? = some v) St) (hsz : vs.length ≤ sizeLine) (hIo : ∀ i h, St i h → ∃ o, h.get? I = some o)
    (hSt : ∀ i h h' o, St i h → h.get? I = some o → h'.get? I = some o → h'.get? ax = some oax → St i h')
    (hcell : ∀ y ∈ scope.names, y.2 ≠ .cell) (hkind : scope.kind = .function) (hx : scope.names.lookup x = some .local) (hst : St 0 s₂.heap) (hI : I < s₂.heap.objs.size)
    (F : Fr h₀ L s₂.heap m) (N : News h₀ L s₂.heap news) (hsrc : (ax, oax) ∈ news) (hIL : L ≠ I) (hI₀ : h₀.get? I = none) (off : ∀ p ∈ news, p.1 ≠ I)
    (R : URest prog w A h₀ L m env elt x scope cl (ax, oax) Fin vs [] news s₂)
    (hRR : ∀ D C s' m' ys news', Fr h₀ L s'.heap m → News h₀ L s'.heap ((D, lst ys) :: news') → Off1 D news' → s'.heap.Ns C m' → h₀.get? C = none → h₀.get? D = none → C ≠ L → D ≠ L → C ≠ D → (∀ p ∈ news', p.1 ≠ C) → (∃ s₃ h tk, s' = { s₃ with heap := h, toks := tk } ∧ Fin ys news' s₃) → RR (.ref D) C (.ok .next) s') :
    wpAny (model prog w) A (newList []) (fun acc s₃ => wpAny (model prog w) A (newFunctionEnv scope env.globals cl [] env.qual none .none (some env)) (fun cenv s₄ =>
      codeAny (model prog w) A (.compStart (.ListComp elt [⟨.Name x px, iter, [], 0⟩] scope pos) 0 (.ref I) acc { cenv with scope := relabel scope env }) (RR acc cenv.locals) s₄) E s₃) E s₂ := by
  refine wpAny_newObj_type (wpAny_newFunctionEnv hcell (by intro y hy; simp at hy) (fun h₁ hns₁ hsb₁ => ?_) hkind)
  dsimp only at hns₁ hsb₁ ⊢
  generalize hH2 : s₂.heap.push { cls := .type "list", dict := none, data := .seq ([] : List Value).toArray } = H2 at hns₁ hsb₁ ⊢
  have hC : H2.objs.size = s₂.heap.objs.size + 1 := by rw [← hH2, Heap.size_push]
  have hDC : s₂.heap.objs.size ≠ H2.objs.size := by rw [hC]; exact Nat.ne_of_lt (Nat.lt_succ_self _)
  have below : ∀ b, b < s₂.heap.objs.size → b ≠ H2.objs.size ∧ b ≠ s₂.heap.objs.size := fun b hb => ⟨by rw [hC]; exact Nat.ne_of_lt (Nat.lt_succ_of_lt hb), Nat.ne_of_lt hb⟩
  have hIlt := hI
  have haxlt : ax < s₂.heap.objs.size := Heap.lt_size (N _ hsrc).1
  have hDf : ∀ b ∈ [I, ax], b ≠ s₂.heap.objs.size ∧ b ≠ H2.objs.size := fun b hb => by
    rcases List.mem_cons.mp hb with rfl | hb
    · exact ⟨(below _ hIlt).2, (below _ hIlt).1⟩
    · rw [List.mem_singleton.mp hb]; exact ⟨(below _ haxlt).2, (below _ haxlt).1⟩
  have old : ∀ b o, s₂.heap.get? b = some o → h₁.get? b = some o := fun b o e => hsb₁.extBut b o (below b (Heap.lt_size e)).1 (Heap.get?_push_of_some _ (hH2 ▸ Heap.get?_push_of_some _ e))
  have hacc : h₁.get? s₂.heap.objs.size = some (lst []) := hsb₁.extBut _ _ hDC (Heap.get?_push_of_some _ (hH2 ▸ Heap.get?_push_size _ rfl))
  have hst₁ : St 0 h₁ := W.frame _ _ _ hst fun b _ o e => old b o e
  have fresh₀ : ∀ a, s₂.heap.objs.size ≤ a → h₀.get? a = none := fun a ha => by
    cases e : h₀.get? a with
    | none => rfl
    | some o' => exact absurd (Heap.lt_size (F.keep a o' e)) (Nat.not_lt.mpr ha)
  have hD₀ : h₀.get? s₂.heap.objs.size = none := fresh₀ _ (Nat.le_refl _)
  have hC₀ : h₀.get? H2.objs.size = none := fresh₀ _ (by rw [hC]; exact Nat.le_succ _)
  have hLlt : L < s₂.heap.objs.size := F.ns.lt
  have hDL : s₂.heap.objs.size ≠ L := Ne.symm (below L hLlt).2
  have hCL : H2.objs.size ≠ L := Ne.symm (below L hLlt).1
  have hCI : I ≠ H2.objs.size := (below I hIlt).1
  have hDI : I ≠ s₂.heap.objs.size := (below I hIlt).2
  have off₀ : Off3 I H2.objs.size s₂.heap.objs.size news := Off3.of fun p hp => ⟨off p hp, (below _ (Heap.lt_size (N p hp).1)).1, (below _ (Heap.lt_size (N p hp).1)).2⟩
  have loop : ∀ s₃ : Shared, s₃ = { s₂ with heap := h₁, toks := s₂.toks + ([] : List (Str × Value)).length } →
      codeAny (model prog w) A (.compLoop (.ListComp elt [⟨.Name x px, iter, [], 0⟩] scope pos) 0 (.ref I) (.ref s₂.heap.objs.size) (compEnvC scope cl H2.objs.size env))
        (RR (.ref s₂.heap.objs.size) H2.objs.size) s₃ := by
    rintro s₃ rfl
    refine codeAny_compLoop_tests
      (fun k s' => ∃ i ys m' news' sb h tk, s' = { sb with heap := h, toks := tk } ∧ i ≤ vs.length ∧ k = vs.length + 1 - i ∧ ys.length = i ∧ St i h ∧ Fr h₀ L h m ∧ h.Ns H2.objs.size m' ∧ News h₀ L h ((s₂.heap.objs.size, lst ys) :: news') ∧
        Off3 I H2.objs.size s₂.heap.objs.size news' ∧ (ax, oax) ∈ news' ∧ URest prog w A h₀ L m env elt x scope cl (ax, oax) Fin (vs.drop i) ys news' sb) ?_ (vs.length + 1)
      ⟨0, [], _, news, s₂, _, _, rfl, Nat.zero_le _, rfl, rfl, hst₁, F.keeps old, hns₁, fun p hp => ?_, off₀, hsrc, by rw [List.drop_zero]; exact R⟩
    · rintro k s' ⟨i, ys, m', news', sb, h', tk, rfl, hi, rfl, hyl, hst', F', hn', N', off', hs', R'⟩
      by_cases hlt : i < vs.length
      · rw [List.drop_eq_getElem_cons hlt] at R'
        refine W.item i _ _ _ hlt hst' fun v h₂ tk₂ hPv hst₂ hk₂ => ?_
        obtain rfl : vs[i] = v := Option.some.inj ((List.getElem?_eq_getElem hlt).symm.trans hPv)
        refine wpAny_assign_Name (wpAny_storeName_local (lookup_relabel_local hx) (hn'.at' fun o e => hk₂ _ o (by simpa using Ne.symm hCI) e) (fun h₃ hn₃ hs₃ => ?_) (by simp [compEnvC, relabel, hkind]))
        refine wpAny_tests_nil ?_
        simp only [if_true]
        have hst₃ : St (i + 1) h₃ := W.frame _ _ _ hst₂ fun b hb o e => hs₃.extBut b o (hDf b hb).2 e
        obtain ⟨oI, heI⟩ := hIo _ _ hst₃
        obtain ⟨oC, heC, hoC⟩ := ns_obj hn₃
        have F₃ : Fr h₀ L h₃ m := (fr_but F' hk₂ hIL hI₀).change hs₃ hCL hC₀
        have off3 := off'.mem
        have N₂ : News h₀ L h₂ ((s₂.heap.objs.size, lst ys) :: news') := news_but N' hk₂ fun p hp => by
          rcases List.mem_cons.mp hp with rfl | hp
          · exact Ne.symm hDI
          · exact (off3 p hp).1
        have N₃ : News h₀ L h₃ ((I, oI) :: (H2.objs.size, oC) :: (s₂.heap.objs.size, lst ys) :: news') := fun p hp => by
          rcases List.mem_cons.mp hp with rfl | hp
          · exact ⟨heI, Ne.symm hIL, hI₀⟩
          · rcases List.mem_cons.mp hp with rfl | hp
            · exact ⟨heC, hCL, hC₀⟩
            · have z := N₂ p hp
              refine ⟨hs₃.extBut _ _ ?_ z.1, z.2⟩
              rcases List.mem_cons.mp hp with rfl | hp
              · exact hDC
              · exact (off3 p hp).2.1
        refine wpAny_mono (R' I oI H2.objs.size oC s₂.heap.objs.size _ h₃ _ _ hoC (by simp) F₃ N₃ off' ⟨hCI, hDI, Ne.symm hDC⟩) (fun y s₄ h₄ => ?_) fun _ _ e => e
        obtain ⟨news₄, F₄, N₄, off₄, hs₄, R₄⟩ := h₄
        have zI := (N₄ (I, oI) List.mem_cons_self).1
        have zC := (N₄ (H2.objs.size, oC) (List.mem_cons_of_mem _ List.mem_cons_self)).1
        have zD := (N₄ (s₂.heap.objs.size, lst ys) (List.mem_cons_of_mem _ (List.mem_cons_of_mem _ List.mem_cons_self))).1
        have N₄' : News h₀ L s₄.heap news₄ := fun p hp => N₄ p (List.mem_cons_of_mem _ (List.mem_cons_of_mem _ (List.mem_cons_of_mem _ hp)))
        have hst₄ : St (i + 1) s₄.heap := hSt _ _ _ _ hst₃ heI zI (N₄' _ hs₄).1
        refine append_at (hsz := by show ys.toArray.size ≤ sizeLine; rw [List.size_toArray, hyl]; exact Nat.le_trans hi hsz) zD fun h₅ hs₅ hD₅ => ?_
        have off4 := off₄.mem
        refine ⟨vs.length + 1 - (i + 1), by omega, i + 1, ys ++ [y], _, news₄, s₄, h₅, s₄.toks, rfl, hlt, rfl, by rw [List.length_append, List.length_singleton, hyl], W.frame _ _ _ hst₄ fun b hb o e => hs₅.extBut b o (hDf b hb).1 e, F₄.change hs₅ hDL hD₀,
          (hoC.ns zC).sameBut hs₅ (Ne.symm hDC), fun p hp => ?_, off₄, hs₄, R₄⟩
        rcases List.mem_cons.mp hp with rfl | hp
        · exact ⟨hD₅.trans (congrArg some (lst_snoc ys y)), hDL, hD₀⟩
        · exact ⟨hs₅.extBut _ _ (off4 p hp).2.2 (N₄' p hp).1, (N₄' p hp).2⟩
      · obtain rfl : i = vs.length := Nat.le_antisymm hi (Nat.not_lt.mp hlt)
        rw [List.drop_length] at R'
        refine W.done _ _ _ hst' fun h₂ tk₂ hk₂ => ?_
        have off3 := off'.mem
        exact hRR _ _ _ m' ys news' (fr_but F' hk₂ hIL hI₀) (news_but N' hk₂ fun p hp => by
          rcases List.mem_cons.mp hp with rfl | hp
          · exact Ne.symm hDI
          · exact (off3 p hp).1) off'.one (hn'.at' fun o e => hk₂ _ o (by simpa using Ne.symm hCI) e) hC₀ hD₀ hCL hDL (Ne.symm hDC) (fun p hp => (off3 p hp).2.1) ⟨sb, h₂, tk₂, rfl, R'⟩
    · rcases List.mem_cons.mp hp with rfl | hp
      · exact ⟨hacc, hDL, hD₀⟩
      · exact ⟨old _ _ (N p hp).1, (N p hp).2⟩
  exact codeAny_compStart_list (loop _ rfl) (W.self 0 _ _ _ hst₁ (loop _ rfl))

theorem URest.cons {elt : Expr} {x : Str} {scope : Scope} {cl : List (Str × Addr)} {src : Addr × Obj} {Fin : List Value → List (Addr × Obj) → Shared → Prop} {v : Value} {r ys : List Value} {news : List (Addr × Obj)}
    (h : ∀ I oI C oC D m₂ h tk (E' : Value → Shared → Prop), NsObj oC m₂ → m₂ x = some v → Fr h₀ L h m → News h₀ L h ((I, oI) :: (C, oC) :: (D, lst ys) :: news) → Off3 I C D news → ((@Ne Nat I C) ∧ (@Ne Nat I D) ∧ (@Ne Nat C D)) →
      wpAny (model prog w) A (eval elt (compEnvC scope cl C env)) (UEnd h₀ L m src I oI C oC D (lst ys) (fun y news' s' => URest prog w A h₀ L m env elt x scope cl src Fin r (ys ++ [y]) news' s')) E' { s with heap := h, toks := tk }) :
    URest prog w A h₀ L m env elt x scope cl src Fin (v :: r) ys news s := h
theorem URest.nil {elt : Expr} {x : Str} {scope : Scope} {cl : List (Str × Addr)} {src : Addr × Obj} {Fin : List Value → List (Addr × Obj) → Shared → Prop} {ys : List Value} {news : List (Addr × Obj)} (h : Fin ys news s) :
    URest prog w A h₀ L m env elt x scope cl src Fin [] ys news s := h
def FinU (h₀ : Heap) (L : Addr) (m : Str → Option Value) (Q : Value → Shared → Prop) (ys : List Value) (news : List (Addr × Obj)) (sb : Shared) : Prop :=
  ∀ D h tk, Fr h₀ L h m → News h₀ L h ((D, lst ys) :: news) → Off1 D news → Q (.ref D) { sb with heap := h, toks := tk }
def FinUA (h₀ : Heap) (L : Addr) (m : Str → Option Value) (y : Str) (Q : Flow → Shared → Prop) (ys : List Value) (news : List (Addr × Obj)) (sb : Shared) : Prop :=
  ∀ D h tk, Fr h₀ L h (fun z => if z = y then some (.ref D) else m z) → News h₀ L h ((D, lst ys) :: news) → Off1 D news → Q .next { sb with heap := h, toks := tk }
def USrc (prog : Program) (w : World) (A : Around) (h₀ : Heap) (L : Addr) (m : Str → Option Value) (env : Env) (elt : Expr) (x : Str) (scope : Scope) (cl : List (Str × Addr)) (Fin : List Value → List (Addr × Obj) → Shared → Prop) (xv : Value) (s₁ : Shared) : Prop :=
  ∃ ax oax vs news, xv = .ref ax ∧ Fr h₀ L s₁.heap m ∧ News h₀ L s₁.heap news ∧ (ax, oax) ∈ news ∧ SeqO oax vs ∧ vs.length ≤ sizeLine ∧ ∀ g, URest prog w A h₀ L m env elt x scope cl (ax, oax) Fin vs [] news { s₁ with heap := g }
theorem USrc.intro {elt : Expr} {x : Str} {scope : Scope} {cl : List (Str × Addr)} {Fin : List Value → List (Addr × Obj) → Shared → Prop} {s₁ : Shared} {ax : Addr} {oax : Obj} {vs : List Value} {news : List (Addr × Obj)} (F : Fr h₀ L s₁.heap m) (N : News h₀ L s₁.heap news) (hm : (ax, oax) ∈ news)
    (hq : SeqO oax vs) (hsz : vs.length ≤ sizeLine) (h : ∀ g, URest prog w A h₀ L m env elt x scope cl (ax, oax) Fin vs [] news { s₁ with heap := g }) : USrc prog w A h₀ L m env elt x scope cl Fin (.ref ax) s₁ := ⟨ax, oax, vs, news, rfl, F, N, hm, hq, hsz, h⟩

theorem iterU {elt iter : Expr} {x : Str} {px : Pos} {scope : Scope} {cl : List (Str × Addr)} {pos : Pos} {Fin : List Value → List (Addr × Obj) → Shared → Prop} {RR : Value → Addr → Result → Shared → Prop} {xv : Value} (hh : A.handled = none)
    (hcell : ∀ y ∈ scope.names, y.2 ≠ .cell) (hkind : scope.kind = .function) (hx : scope.names.lookup x = some .local) (h : USrc prog w A h₀ L m env elt x scope cl Fin xv s)
    (hRR : ∀ D C s' m' ys news', Fr h₀ L s'.heap m → News h₀ L s'.heap ((D, lst ys) :: news') → Off1 D news' → s'.heap.Ns C m' → h₀.get? C = none → h₀.get? D = none → C ≠ L → D ≠ L → C ≠ D → (∀ p ∈ news', p.1 ≠ C) → (∃ s₃ h tk, s' = { s₃ with heap := h, toks := tk } ∧ Fin ys news' s₃) → RR (.ref D) C (.ok .next) s') :
    wpAny (model prog w) A (pyIter xv) (fun it s₂ => wpAny (model prog w) A (newList []) (fun acc s₃ => wpAny (model prog w) A (newFunctionEnv scope env.globals cl [] env.qual none .none (some env)) (fun cenv s₄ =>
      codeAny (model prog w) A (.compStart (.ListComp elt [⟨.Name x px, iter, [], 0⟩] scope pos) 0 it acc { cenv with scope := relabel scope env }) (RR acc cenv.locals) s₄) E s₃) E s₂) E s := by
  obtain ⟨ax, oax, vs, news, rfl, F, N, hm, ⟨hc, n, hd⟩, hsz, R⟩ := h
  have hax := (N _ hm).1
  have hlt : ax < s.heap.objs.size := Heap.lt_size hax
  have hoff : ∀ p ∈ news, p.1 ≠ s.heap.objs.size := fun p hp => Nat.ne_of_lt (Heap.lt_size (N p hp).1)
  rcases hc with hc | hc
  · have hl : s.heap.IsList ax vs.toArray := ⟨oax, hax, hc, n, hd⟩
    refine wpAny_pyIter_list hl ?_
    have up : ∀ b o, s.heap.get? b = some o → (s.heap.push { cls := .type "list_iterator", data := .fields #[.ref ax, .int 0 0] }).get? b = some o := fun b o e => Heap.get?_push_of_some _ e
    have W := Walks.list (prog := prog) (w := w) hh s.heap.objs.size ax (Nat.ne_of_lt hlt) vs.toArray
    have e1 : vs.toArray.size = vs.length := by simp
    have e2 : (fun (i : Nat) (v : Value) => vs.toArray[i]? = some v) = fun i v => vs[i]? = some v := by funext i v; simp
    rw [e1, e2] at W
    exact blockU W hsz (fun i h st => by obtain ⟨o, e, _⟩ := st.1; exact ⟨o, e⟩) (fun i h h' o st e e' ea => ⟨by obtain ⟨o', q, r⟩ := st.1; rw [e] at q; cases q; exact ⟨o, e', r⟩, ⟨oax, ea, hc, n, hd⟩⟩) hcell hkind hx ⟨⟨_, Heap.get?_push_size _ rfl, rfl, rfl⟩, hl.push _⟩
      (by rw [Heap.size_push]; exact Nat.lt_succ_self _) (F.keeps up) (N.grown up) hm (Nat.ne_of_lt F.ns.lt) (next_is_new F) hoff (R _) hRR
  · have hl : s.heap.IsTuple ax vs.toArray := ⟨oax, hax, hc, n, hd⟩
    refine wpAny_pyIter_tuple hl ?_
    have up : ∀ b o, s.heap.get? b = some o → (s.heap.push { cls := .type "tuple_iterator", data := .fields #[.ref ax, .int 0 0] }).get? b = some o := fun b o e => Heap.get?_push_of_some _ e
    have W := Walks.tuple (prog := prog) (w := w) hh s.heap.objs.size ax (Nat.ne_of_lt hlt) vs.toArray
    have e1 : vs.toArray.size = vs.length := by simp
    have e2 : (fun (i : Nat) (v : Value) => vs.toArray[i]? = some v) = fun i v => vs[i]? = some v := by funext i v; simp
    rw [e1, e2] at W
    exact blockU W hsz (fun i h st => by obtain ⟨o, e, _⟩ := st.1; exact ⟨o, e⟩) (fun i h h' o st e e' ea => ⟨by obtain ⟨o', q, r⟩ := st.1; rw [e] at q; cases q; exact ⟨o, e', r⟩, ⟨oax, ea, hc, n, hd⟩⟩) hcell hkind hx ⟨⟨_, Heap.get?_push_size _ rfl, rfl, rfl⟩, hl.push _⟩
      (by rw [Heap.size_push]; exact Nat.lt_succ_self _) (F.keeps up) (N.grown up) hm (Nat.ne_of_lt F.ns.lt) (next_is_new F) hoff (R _) hRR

theorem compU {elt iter : Expr} {x : Str} {px : Pos} {scope : Scope} {cl : List (Str × Addr)} {pos : Pos} {Q : Value → Shared → Prop} (uF : Fr h₀ L s.heap m) (hh : A.handled = none)
    (hclos : closureFor scope env = pure cl) (hcell : ∀ y ∈ scope.names, y.2 ≠ .cell) (hkind : scope.kind = .function)
    (hnames : ∀ y ∈ scope.names, y.2 = .local → scope.names.lookup y.1 = some .local) (hx : scope.names.lookup x = some .local)
    (h : wpAny (model prog w) A (eval iter env) (USrc prog w A h₀ L m env elt x scope cl (FinU h₀ L m Q)) E s)
    (hs : ∀ x, foldedSetIterable iter env x = pure x := by intro _; rfl) :
    wpAny (model prog w) A (eval (.ListComp elt [⟨.Name x px, iter, [], 0⟩] scope pos) env) Q E s := by
  rw [eval_ListComp]
  refine wpAny_comprehension_free (use := none) rfl hs hclos hkind hnames (wpAny_mono h (fun xv s₁ h₁ => iterU hh hcell hkind hx h₁ ?_) fun _ _ e => e)
  rintro D C s' m' ys news' F' N' o1 hn hC₀ hD₀ hCL hDL hCD offC ⟨s₃, h, tk, rfl, fin⟩
  refine ⟨m', hn, fun h'' hs'' => fin D h'' tk (F'.change hs'' hCL hC₀) (fun p hp => ?_) o1⟩
  refine ⟨hs''.extBut _ _ ?_ (N' p hp).1, (N' p hp).2⟩
  rcases List.mem_cons.mp hp with rfl | hp
  · exact Ne.symm hCD
  · exact offC p hp

theorem compUA {elt iter : Expr} {x y : Str} {px py : Pos} {scope : Scope} {cl : List (Str × Addr)} {pos spos : Pos} {Q : Flow → Shared → Prop} (uF : Fr h₀ L s.heap m) (hLe : env.locals = L) (hh : A.handled = none)
    (hsw : swapsWith (.ListComp elt [⟨.Name x px, iter, [], 0⟩] scope pos) (some (.Name y py)) spos.line env = pure true)
    (hclos : closureFor scope env = pure cl) (hcell : ∀ z ∈ scope.names, z.2 ≠ .cell) (hkind : scope.kind = .function)
    (hnames : ∀ z ∈ scope.names, z.2 = .local → scope.names.lookup z.1 = some .local) (hx : scope.names.lookup x = some .local)
    (hy : env.kindOf y = some .local) (hp : (env.scope.kind == .class || (env.scope.kind == .module && env.locals != env.globals)) = false)
    (h : wpAny (model prog w) A (eval iter env) (USrc prog w A h₀ L m env elt x scope cl (FinUA h₀ L m y Q)) E s)
    (hs : ∀ x, foldedSetIterable iter env x = pure x := by intro _; rfl) :
    wpAny (model prog w) A (exec (.Assign [.Name y py] (.ListComp elt [⟨.Name x px, iter, [], 0⟩] scope pos) spos) env) Q E s := by
  subst hLe
  rw [exec_Assign_Name_used _ _ _ _ hsw]
  refine wpAny_bind (wpAny_standAt (wpAny_bind ?_))
  show wpAny _ A (do let _ ← comprehension (.ListComp elt [⟨.Name x px, iter, [], 0⟩] scope pos) scope env _ (newList []) false (eval iter env) (some (assign (.Name y py) env))) _ _ s
  refine wpAny_bind (wpAny_mono (wpAny_comprehension_free (use := some (assign (.Name y py) env)) (Q := fun _ s' => Q .next s') rfl hs hclos hkind hnames
    (wpAny_mono h (fun xv s₁ h₁ => iterU hh hcell hkind hx h₁ ?_) fun _ _ e => e)) (fun _ s' hq => wpAny_pure (wpAny_pure hq)) fun _ _ e => e)
  rintro D C s' m' ys news' F' N' o1 hn hC₀ hD₀ hCL hDL hCD offC ⟨s₃, h, tk, rfl, fin⟩
  show wpAny _ A (assign (.Name y py) env (.ref D)) _ _ _
  refine wpAny_assign_Name (wpAny_storeName_local hy F'.ns (fun h₂ hn₂ hs₂ => ?_) hp)
  have hL₀ : h₀.get? env.locals = none := Heap.get?_none_of_le F'.above
  have F₂ : Fr h₀ env.locals h₂ (fun z => if z = y then some (.ref D) else m z) := ⟨hn₂, fun b o e => hs₂.extBut b o (fun q => by rw [q, hL₀] at e; cases e) (F'.keep b o e), F'.above⟩
  refine ⟨m', hn.sameBut hs₂ hCL, fun h'' hs'' => fin D h'' _ (F₂.change hs'' hCL hC₀) (fun p hp => ?_) o1⟩
  have z : h₂.get? p.1 = some p.2 := hs₂.extBut _ _ (N' p hp).2.1 (N' p hp).1
  refine ⟨hs''.extBut _ _ ?_ z, (N' p hp).2⟩
  rcases List.mem_cons.mp hp with rfl | hp
  · exact Ne.symm hCD
  · exact offC p hp

/-- a name of the enclosing frame's cells, read in a comprehension's block -/
theorem ldCellU {cl : List (Str × Addr)} {scope : Scope} {C c : Addr} {oc : Obj} {v : Value} {x : Str} {pos : Pos} {news : List (Addr × Obj)} {Q : Value → Shared → Prop} (N : News h₀ L s.heap news) (hc : cl.lookup x = some c) (hm : (c, oc) ∈ news) (hd : oc.data = .cell (some v)) (h : Q v s)
    (hk : (compEnvC scope cl C env).scope.kind = .function := by rfl) (hl : (compEnvC scope cl C env).kindOf x = some .cell := by rfl) (hdb : (x == ("__debug__" : Str)) = false := by decide) (hn : (x == ("__classdict__" : Str)) = false := by decide) :
    wpAny (model prog w) A (eval (.Name x pos) (compEnvC scope cl C env)) Q E s := wpAny_Name (wpAny_loadName_cell hk hl hc ⟨oc, (N _ hm).1, hd⟩ h) hdb
end
end Mine

end

section
open PySem PySem.W PyProof.Rows PySem.Calls PyProof.Rows.LCg
set_option Elab.async false
set_option maxRecDepth 100000
namespace Mine
theorem intsCons {ys : List Value} {a : Int} {l : List Int} (h : IntsAre ys (a :: l)) : ∃ (t : Tok) (zs : List Value), ys = .int a t :: zs ∧ IntsAre zs l := by
  cases h with | cons _ t h => exact ⟨t, _, rfl, h⟩
theorem ints4 {ys : List Value} {a b c d : Int} {l : List Int} (h : IntsAre ys (a :: b :: c :: d :: l)) : ∃ (ta tb tc td : Tok) (zs : List Value), ys = .int a ta :: .int b tb :: .int c tc :: .int d td :: zs ∧ IntsAre zs l := by
  obtain ⟨ta, z1, e1, h1⟩ := intsCons h
  obtain ⟨tb, z2, e2, h2⟩ := intsCons h1
  obtain ⟨tc, z3, e3, h3⟩ := intsCons h2
  obtain ⟨td, z4, e4, h4⟩ := intsCons h3
  exact ⟨ta, tb, tc, td, z4, by rw [e1, e2, e3, e4], h4⟩
theorem intsOpen2 {ys : List Value} {a b : Int} (h : IntsAre ys [a, b]) : ∃ ta tb, ys = [.int a ta, .int b tb] := by
  cases h with | cons _ ta h => cases h with | cons _ tb h => cases h with | nil => exact ⟨ta, tb, rfl⟩
theorem intsOpen12 {ys : List Value} {a0 a1 a2 a3 a4 a5 a6 a7 a8 a9 a10 a11 : Int} (h : IntsAre ys [a0, a1, a2, a3, a4, a5, a6, a7, a8, a9, a10, a11]) : ∃ b0 b1 b2 b3 b4 b5 b6 b7 b8 b9 b10 b11 : Tok, ys = [.int a0 b0, .int a1 b1, .int a2 b2, .int a3 b3, .int a4 b4, .int a5 b5, .int a6 b6, .int a7 b7, .int a8 b8, .int a9 b9, .int a10 b10, .int a11 b11] := by
  obtain ⟨b0, b1, b2, b3, z1, e1, h1⟩ := ints4 h
  obtain ⟨b4, b5, b6, b7, z2, e2, h2⟩ := ints4 h1
  obtain ⟨b8, b9, b10, b11, z3, e3, h3⟩ := ints4 h2
  cases h3 with | nil => exact ⟨b0, b1, b2, b3, b4, b5, b6, b7, b8, b9, b10, b11, by rw [e1, e2, e3]⟩

theorem off3_sub {I C D : Addr} {news : List (Addr × Obj)} (off : Off3 I C D news) : ∀ {l : List (Addr × Obj)}, (∀ p ∈ l, p ∈ news) → Off3 I C D l
  | [], _ => trivial
  | q :: _, h => ⟨Off3.mem off q (h q List.mem_cons_self), off3_sub off fun p hp => h p (List.mem_cons_of_mem _ hp)⟩
theorem typeNe {s} : Value.type s ≠ Value.none := fun h => nomatch h
theorem refNe {a} : Value.ref a ≠ Value.none := fun h => nomatch h
def Ne65o : List (Addr × Obj) → Prop
  | [] => True
  | p :: r => (p.2.cls ≠ Value.none ∨ @Ne Nat p.1 65) ∧ Ne65o r
theorem ne65o {h₀ h : Heap} {L : Addr} {news : List (Addr × Obj)} {ps : Array Value} (N : News h₀ L h news) (h65 : (65, tabO ps) ∈ news) : ∀ {l : List (Addr × Obj)}, (∀ p ∈ l, p ∈ news) → Ne65o l → ∀ p ∈ l, p.1 ≠ 65
  | [], _, _ => fun _ h => nomatch h
  | q :: r, hs, h => fun p hp => by
    rcases List.mem_cons.mp hp with e | hp
    · rw [e]
      rcases h.1 with h1 | h1
      · intro k
        have z1 := (N _ h65).1
        have z2 := (N _ (hs q List.mem_cons_self)).1
        rw [k] at z2
        have z3 : some q.2 = some (tabO ps) := z2.symm.trans z1
        injection z3 with z3
        exact h1 (by rw [z3])
      · exact h1
    · exact ne65o N h65 (fun p hp => hs p (List.mem_cons_of_mem _ hp)) h.2 p hp
theorem init2P {prog : Program} {w : World} {p : Program} {loose : List Str} {mean : ExcName → Option Value} {mg mb : Str → Option Value}
   {dp un : Nat} {gd : Option (List Code)} {cn : Str} {cs : Scope} {a : Addr} {ccd : Value} {cl : List (Str × Addr)} {outer : List Env} {A₀ : Around} {base h₀ : Heap} {L : Addr} {m : Str → Option Value} {s : Shared} {Q E : Value → Shared → Prop}
   {l : Addr} {nl : Nat} {vs : List Value} {md : Addr} {tm0 tm1 : Tok} {P : Int} {tk : Tok} {c0 c1 : Int} {ps : Array Value} {os0 : OsState} {news r1 rest : List (Addr × Obj)}
   (B : Below A₀ base outer h₀) (F : Fr h₀ L s.heap m) (X : (hd.heap_1 w.params).In h₀) (T : Top p loose mean mg mb h₀) (N : News h₀ L s.heap news)
   (p1 : Pick (l, { cls := .type "list", data := .seq vs.toArray nl }) news r1) (hv : IntsAre vs [c0, c1]) (p3 : Pick (65, tabO ps) r1 rest) (m2 : (md, tupO [.int 1 tm0, .int 0 tm1]) ∈ rest) (hk : cs.kind = .function)
   (hroom : dp + 5 < recursionLimit) (hG : AllBare s.gens) (hos : s.os = os0) (hP : P ≠ 0) (ht : TriplesOk ps.toList) (hl65 : @Ne Nat l 65) (hm65 : @Ne Nat md 65) (hr65' : Ne65o rest)
   (hQ : ∀ (s' : Shared) (x dx D mc : Addr) (ps' : Array Value) (k1 k2 k3 k4 k5 tkd b0 b1 : Tok), Fr h₀ L s'.heap m →
     News h₀ L s'.heap ((x, instObj 206 dx) :: (dx, fqD w k1 k2 k3 k4 k5 P tk mc D md 2 tkd) :: (D, tupO [.int (c0.fmod P) b0, .int (c1.fmod P) b1]) :: (65, tabO ps') :: rest) →
     AllLt dx rest → @Ne Nat dx 65 → @Ne Nat x 65 → @Ne Nat D 65 → @Ne Nat md 65 → @LT.lt Nat _ 65 dx → @LT.lt Nat _ md dx → @LT.lt Nat _ dx x → @LT.lt Nat _ x D → TriplesOk ps'.toList → AllBare s'.gens → s'.os = os0 → Q (.ref x) s') :
   wpAny (model prog w) (ktrTop dp un gd cn cs L a ccd cl outer) (call (.ref 206) [.ref l, .ref md, .int P tk]) Q E s := by
  obtain ⟨t0, t1, rfl⟩ := intsOpen2 hv
  have hr65 := ne65o N (p1.mem.2 _ p3.mem.1) (fun q hq => p1.mem.2 _ (p3.mem.2 _ hq)) hr65'
  refine init2 B F X l nl md tm0 tm1 P tk t0 t1 c0 c1 ps rest ?_ T hk hroom hG hP ht hl65 hm65 hr65 ?_
  · refine newsSub N ?_
    refine List.forall_mem_cons.mpr ⟨p1.mem.1, ?_⟩
    refine List.forall_mem_cons.mpr ⟨p1.mem.2 _ (p3.mem.2 _ m2), ?_⟩
    exact List.forall_mem_cons.mpr ⟨p1.mem.2 _ p3.mem.1, fun q hq => p1.mem.2 _ (p3.mem.2 _ hq)⟩
  · intro s' x dx mc D T0 ys ps' k1 k2 k3 k4 k5 tkd u0 F' N' la h65 hmd hx hmc hT0 hD0 ht' hG' hos' hi
    obtain ⟨b0, b1, rfl⟩ := intsOpen2 hi
    refine hQ s' x dx D mc ps' k1 k2 k3 k4 k5 tkd b0 b1 F' (newsSub N' ?_) la (Nat.ne_of_gt h65) (neN (by omega)) (neN (by omega)) hm65 h65 hmd hx (ltN (by omega))  ht' hG' (hos'.trans hos)
    intro q hq
    simp only [List.mem_cons] at hq ⊢
    grind

theorem init39P {prog : Program} {w : World} {p : Program} {loose : List Str} {mean : ExcName → Option Value} {mg mb : Str → Option Value}
   {dp un : Nat} {gd : Option (List Code)} {cn : Str} {cs : Scope} {a : Addr} {ccd : Value} {cl : List (Str × Addr)} {outer : List Env} {A₀ : Around} {base h₀ : Heap} {L : Addr} {m : Str → Option Value} {s : Shared} {Q E : Value → Shared → Prop}
   {l : Addr} {nl : Nat} {vs : List Value} {P : Int} {tk : Tok} {c0 c1 c2 c3 c4 c5 c6 c7 c8 c9 c10 c11 : Int} {ps : Array Value} {os0 : OsState} {news r1 rest : List (Addr × Obj)}
   (B : Below A₀ base outer h₀) (F : Fr h₀ L s.heap m) (X : (hd.heap_1 w.params).In h₀) (T : Top p loose mean mg mb h₀) (N : News h₀ L s.heap news)
   (p1 : Pick (l, { cls := .type "list", data := .seq vs.toArray nl }) news r1) (hv : IntsAre vs [c0, c1, c2, c3, c4, c5, c6, c7, c8, c9, c10, c11]) (p3 : Pick (65, tabO ps) r1 rest) (hk : cs.kind = .function)
   (hroom : dp + 5 < recursionLimit) (hG : AllBare s.gens) (hos : s.os = os0) (hP : P ≠ 0) (ht : TriplesOk ps.toList) (hl65 : @Ne Nat l 65) (hr65' : Ne65o rest)
   (hQ : ∀ (s' : Shared) (x dx D mc T0 T6 : Addr) (ps' : Array Value) (k1 k2 k3 k4 k5 tkd u0 u6 b0 b1 b2 b3 b4 b5 b6 b7 b8 b9 b10 b11 : Tok), Fr h₀ L s'.heap m →
     News h₀ L s'.heap ((x, instObj 177 dx) :: (dx, fqD w k1 k2 k3 k4 k5 P tk mc D 39 12 tkd) :: (D, tupO [.int (c0.fmod P) b0, .int (c1.fmod P) b1, .int (c2.fmod P) b2, .int (c3.fmod P) b3, .int (c4.fmod P) b4, .int (c5.fmod P) b5, .int (c6.fmod P) b6, .int (c7.fmod P) b7, .int (c8.fmod P) b8, .int (c9.fmod P) b9, .int (c10.fmod P) b10, .int (c11.fmod P) b11]) :: (mc, lst [.ref T0, .ref T6]) :: (T0, pairO 0 u0 (.int 82 233)) :: (T6, pairO 6 u6 (.int (-18) 240)) :: (65, tabO ps') :: rest) →
     AllLt dx rest → @Ne Nat dx 65 → @Ne Nat x 65 → @Ne Nat D 65 → @Ne Nat mc 65 → @Ne Nat T0 65 → @Ne Nat T6 65 → @LT.lt Nat _ 65 dx → @LT.lt Nat _ dx x → @LT.lt Nat _ x D → @LT.lt Nat _ x mc → @LT.lt Nat _ x T0 → @LT.lt Nat _ x T6 → TriplesOk ps'.toList → AllBare s'.gens → s'.os = os0 → Q (.ref x) s') :
   wpAny (model prog w) (ktrTop dp un gd cn cs L a ccd cl outer) (call (.ref 177) [.ref l, .ref 39, .int P tk]) Q E s := by
  obtain ⟨t0, t1, t2, t3, t4, t5, t6, t7, t8, t9, t10, t11, rfl⟩ := intsOpen12 hv
  have hr65 := ne65o N (p1.mem.2 _ p3.mem.1) (fun q hq => p1.mem.2 _ (p3.mem.2 _ hq)) hr65'
  refine init39 B F X l nl P tk t0 t1 t2 t3 t4 t5 t6 t7 t8 t9 t10 t11 c0 c1 c2 c3 c4 c5 c6 c7 c8 c9 c10 c11 ps rest ?_ T hk hroom hG hP ht hl65 hr65 ?_
  · refine newsSub N ?_
    refine List.forall_mem_cons.mpr ⟨p1.mem.1, ?_⟩
    
    exact List.forall_mem_cons.mpr ⟨p1.mem.2 _ (p3.mem.1), fun q hq => p1.mem.2 _ (p3.mem.2 _ hq)⟩
  · intro s' x dx mc D T0 T6 ys ps' k1 k2 k3 k4 k5 tkd u0 u6 F' N' la h65 hx hmc hT0 hD0 hT6 hD6 ht' hG' hos' hi
    obtain ⟨b0, b1, b2, b3, b4, b5, b6, b7, b8, b9, b10, b11, rfl⟩ := intsOpen12 hi
    refine hQ s' x dx D mc T0 T6 ps' k1 k2 k3 k4 k5 tkd u0 u6 b0 b1 b2 b3 b4 b5 b6 b7 b8 b9 b10 b11 F' (newsSub N' ?_) la (Nat.ne_of_gt h65) (neN (by omega)) (neN (by omega)) (neN (by omega)) (neN (by omega)) (neN (by omega)) h65 hx (ltN (by omega)) hmc (ltN (by omega)) (ltN (by omega)) ht' hG' (hos'.trans hos)
    intro q hq
    simp only [List.mem_cons] at hq ⊢
    grind

theorem init42P {prog : Program} {w : World} {p : Program} {loose : List Str} {mean : ExcName → Option Value} {mg mb : Str → Option Value}
   {dp un : Nat} {gd : Option (List Code)} {cn : Str} {cs : Scope} {a : Addr} {ccd : Value} {cl : List (Str × Addr)} {outer : List Env} {A₀ : Around} {base h₀ : Heap} {L : Addr} {m : Str → Option Value} {s : Shared} {Q E : Value → Shared → Prop}
   {l : Addr} {nl : Nat} {vs : List Value} {P : Int} {tk : Tok} {c0 c1 c2 c3 c4 c5 c6 c7 c8 c9 c10 c11 : Int} {ps : Array Value} {os0 : OsState} {news r1 rest : List (Addr × Obj)}
   (B : Below A₀ base outer h₀) (F : Fr h₀ L s.heap m) (X : (hd.heap_1 w.params).In h₀) (T : Top p loose mean mg mb h₀) (N : News h₀ L s.heap news)
   (p1 : Pick (l, { cls := .type "list", data := .seq vs.toArray nl }) news r1) (hv : IntsAre vs [c0, c1, c2, c3, c4, c5, c6, c7, c8, c9, c10, c11]) (p3 : Pick (65, tabO ps) r1 rest) (hk : cs.kind = .function)
   (hroom : dp + 5 < recursionLimit) (hG : AllBare s.gens) (hos : s.os = os0) (hP : P ≠ 0) (ht : TriplesOk ps.toList) (hl65 : @Ne Nat l 65) (hr65' : Ne65o rest)
   (hQ : ∀ (s' : Shared) (x dx D mc : Addr) (ps' : Array Value) (k1 k2 k3 k4 k5 tkd b0 b1 b2 b3 b4 b5 b6 b7 b8 b9 b10 b11 : Tok), Fr h₀ L s'.heap m →
     News h₀ L s'.heap ((x, instObj 177 dx) :: (dx, fqD w k1 k2 k3 k4 k5 P tk mc D 42 12 tkd) :: (D, tupO [.int (c0.fmod P) b0, .int (c1.fmod P) b1, .int (c2.fmod P) b2, .int (c3.fmod P) b3, .int (c4.fmod P) b4, .int (c5.fmod P) b5, .int (c6.fmod P) b6, .int (c7.fmod P) b7, .int (c8.fmod P) b8, .int (c9.fmod P) b9, .int (c10.fmod P) b10, .int (c11.fmod P) b11]) :: (65, tabO ps') :: rest) →
     AllLt dx rest → @Ne Nat dx 65 → @Ne Nat x 65 → @Ne Nat D 65 → @LT.lt Nat _ 65 dx → @LT.lt Nat _ dx x → @LT.lt Nat _ x D → TriplesOk ps'.toList → AllBare s'.gens → s'.os = os0 → Q (.ref x) s') :
   wpAny (model prog w) (ktrTop dp un gd cn cs L a ccd cl outer) (call (.ref 177) [.ref l, .ref 42, .int P tk]) Q E s := by
  obtain ⟨t0, t1, t2, t3, t4, t5, t6, t7, t8, t9, t10, t11, rfl⟩ := intsOpen12 hv
  have hr65 := ne65o N (p1.mem.2 _ p3.mem.1) (fun q hq => p1.mem.2 _ (p3.mem.2 _ hq)) hr65'
  refine init42 B F X l nl P tk t0 t1 t2 t3 t4 t5 t6 t7 t8 t9 t10 t11 c0 c1 c2 c3 c4 c5 c6 c7 c8 c9 c10 c11 ps rest ?_ T hk hroom hG hP ht hl65 hr65 ?_
  · refine newsSub N ?_
    refine List.forall_mem_cons.mpr ⟨p1.mem.1, ?_⟩
    
    exact List.forall_mem_cons.mpr ⟨p1.mem.2 _ (p3.mem.1), fun q hq => p1.mem.2 _ (p3.mem.2 _ hq)⟩
  · intro s' x dx mc D T0 T6 ys ps' k1 k2 k3 k4 k5 tkd u0 u6 F' N' la h65 hx hmc hT0 hD0 hT6 hD6 ht' hG' hos' hi
    obtain ⟨b0, b1, b2, b3, b4, b5, b6, b7, b8, b9, b10, b11, rfl⟩ := intsOpen12 hi
    refine hQ s' x dx D mc ps' k1 k2 k3 k4 k5 tkd b0 b1 b2 b3 b4 b5 b6 b7 b8 b9 b10 b11 F' (newsSub N' ?_) la (Nat.ne_of_gt h65) (neN (by omega)) (neN (by omega)) h65 hx (ltN (by omega))  ht' hG' (hos'.trans hos)
    intro q hq
    simp only [List.mem_cons] at hq ⊢
    grind

theorem off65 {I C D : Addr} {o : Obj} : ∀ {news : List (Addr × Obj)}, Off3 I C D news → (65, o) ∈ news → (@Ne Nat I 65) ∧ (@Ne Nat C 65) ∧ (@Ne Nat D 65)
  | [], _, h => nomatch h
  | q :: r, off, h => by
    rcases List.mem_cons.mp h with e | h
    · have z := off.1
      rw [← e] at z
      exact ⟨fun k => z.1 k.symm, fun k => z.2.1 k.symm, fun k => z.2.2 k.symm⟩
    · exact off65 off.2 h
theorem off65' {D : Addr} {o : Obj} : ∀ {news : List (Addr × Obj)}, Off1 D news → (65, o) ∈ news → (@Ne Nat D 65)
  | [], _, h => nomatch h
  | q :: r, off, h => by
    rcases List.mem_cons.mp h with e | h
    · have z := off.1
      rw [← e] at z
      exact fun k => z k.symm
    · exact off65' off.2 h
theorem off3_at {I C D a : Addr} {o : Obj} {news : List (Addr × Obj)} (off : Off3 I C D news) (h : (a, o) ∈ news) : (@Ne Nat a I) ∧ (@Ne Nat a C) ∧ (@Ne Nat a D) := Off3.mem off _ h
def Ne65 : List (Addr × Obj) → Prop
  | [] => True
  | p :: r => @Ne Nat p.1 65 ∧ Ne65 r
theorem ne65 : ∀ {l : List (Addr × Obj)}, Ne65 l → ∀ p ∈ l, p.1 ≠ 65
  | [], _ => fun _ h => nomatch h
  | q :: r, h => fun p hp => by
    rcases List.mem_cons.mp hp with e | hp
    · rw [e]; exact h.1
    · exact ne65 h.2 p hp
theorem newsDrop4 {h₀ h : Heap} {L : Addr} {a b c d e : Addr × Obj} {r : List (Addr × Obj)} (N : News h₀ L h (a :: b :: c :: d :: e :: r)) : News h₀ L h (a :: b :: c :: d :: r) :=
  newsSub N fun p hp => by
    simp only [List.mem_cons] at hp ⊢
    rcases hp with h | h | h | h | h
    · exact .inl h
    · exact .inr (.inl h)
    · exact .inr (.inr (.inl h))
    · exact .inr (.inr (.inr (.inl h)))
    · exact .inr (.inr (.inr (.inr (.inr h))))
end Mine

end

section
open PySem PySem.W PyProof.Rows PySem.Calls PyProof.Rows.LCg
set_option Elab.async false
set_option maxRecDepth 100000
namespace Mine
def bareProg (p : Program) : Program := { p with main := { p.main with body := [.Import [{ name := "sys", asname := none, pos := ⟨1, 0, 1, 0⟩ }] ⟨1, 0, 1, 0⟩] } }
theorem topHide {p : Program} {loose : List Str} {mean : ExcName → Option Value} {mg mb : Str → Option Value} {h : Heap} {ps : Array Value} (T : Top p loose mean mg mb h) (h65 : h.get? 65 = some (tabO ps)) :
    Top (bareProg p) (loose ++ (recsOf p).map (·.name) ++ (litsOf p).map (·.1) ++ (clssOf p loose).map (·.name)) mean mg mb (h.hide 65) := by
  have up : ∀ b o, b ≠ 65 → h.get? b = some o → (h.hide 65).get? b = some o := fun b o hb e => (Heap.hide_ne h hb).trans e
  have ns : ∀ a m, a ≠ 65 → h.Ns a m → (h.hide 65).Ns a m := fun a m ha ⟨o, es, ep, e, r⟩ => ⟨o, es, ep, up _ _ ha e, r⟩
  have e1 : recsOf (bareProg p) = [] := rfl
  have e2 : litsOf (bareProg p) = [] := rfl
  refine { g := ns _ _ (by decide) T.g, b := ns _ _ (by decide) T.b, nolimit := ?_, nodigits := ?_, fn := fun d hd => (by rw [e1] at hd; cases hd), own := fun o ho => (by cases ho), const := fun x d hv => (by cases hv), free := fun x h1 h2 _ _ _ => ?_, builtins := T.builtins, tab := fun d hd => (by rw [e1] at hd; cases hd), bmain := ?_, seer := fun hi => ?_ }
  · obtain ⟨mc, hn, hr⟩ := T.nolimit; exact ⟨mc, ns _ _ (by decide) hn, hr⟩
  · obtain ⟨mc, hn, hr⟩ := T.nodigits; exact ⟨mc, ns _ _ (by decide) hn, hr⟩
  · simp only [List.mem_append, not_or] at h2
    exact T.free x h1 h2.1.1.1 h2.1.1.2 h2.1.2 h2.2
  · obtain ⟨bm, ob, b1, b2, b3, b4, b5⟩ := T.bmain
    refine ⟨bm, ob, b1, b2, up _ _ (fun q => ?_) b3, b4, b5⟩
    rw [q, h65] at b3; cases b3; cases b4
  · exact absurd hi (by rw [show importsNone (bareProg p) = false from by with_unfolding_all rfl]; decide)
theorem frHide {h₀ h : Heap} {L : Addr} {m : Str → Option Value} (F : Fr h₀ L h m) : Fr (h₀.hide 65) L h m :=
  ⟨F.ns, fun b o e => F.keep b o (Heap.of_hide e), by rw [Heap.hide_size]; exact F.above⟩
theorem newsHide {h₀ h : Heap} {L : Addr} {m : Str → Option Value} {news : List (Addr × Obj)} {ps : Array Value} (F : Fr h₀ L h m) (N : News h₀ L h news) (h65 : h₀.get? 65 = some (tabO ps)) : News (h₀.hide 65) L h ((65, tabO ps) :: news) := fun p hp => by
  have hid : ∀ b, h₀.get? b = none → (h₀.hide 65).get? b = none := fun b e => by
    cases q : (h₀.hide 65).get? b with
    | none => rfl
    | some o => rw [Heap.of_hide q] at e; cases e
  rcases List.mem_cons.mp hp with rfl | hp
  · exact ⟨F.keep _ _ h65, Nat.ne_of_lt (Nat.lt_of_lt_of_le (Heap.lt_size h65) F.above), Heap.hide_self h₀ 65⟩
  · exact ⟨(N p hp).1, (N p hp).2.1, hid _ (N p hp).2.2⟩
theorem inHide {w : World} {h : Heap} (X : (hd.heap_1 w.params).In h) : (hd.heap_1 w.params).In (h.hide 65) := fun a o e => (Heap.hide_ne h (fun q => by rw [q, no65] at e; cases e)).trans (X a o e)
/-- the very end: the answer True, and nothing old turned but the one table -/
theorem endLaw {c : ClaimW} {cl : Str → Option Addr} {mean : ExcName → Option Value} {args : List WData} {s₁ s' : Shared} {L : Addr} {m : Str → Option Value} {news : List (Addr × Obj)} {ps : Array Value} {w : World}
    (X : (hd.heap_1 w.params).In s₁.heap) (h65 : s₁.heap.get? 65 = some (tabO #[])) (F : Fr (s₁.heap.hide 65) L s'.heap m) (N : News (s₁.heap.hide 65) L s'.heap news) (hm : (65, tabO ps) ∈ news) (hr : ∀ cls, c.raises args cls = false) (hp : c.post args (.bool true) args = true)
    (hG : AllBare s'.gens) (hos : s'.os = s₁.os) : GoodWG c cl mean args s₁ (.ok (.ret (.bool true))) s' := by
  refine ⟨.inl ⟨_, _, [], rfl, hr, ReadsW.bool true, hp, fun _ => ⟨List.nodup_nil, fun _ hm => (nomatch hm)⟩⟩, ?_, hos, hG⟩
  obtain ⟨o, vs, file, tf, text, hl, hc, hd, h11, h18, h7, h9, h10, h11'⟩ := at67 w.params
  have e := X 67 o hl
  have h0 : s₁.heap.TableAt 67 65 #[] := ⟨⟨o, vs, e, hc, hd, h11'⟩, h65⟩
  have hx : Heap.ExtBut 65 s₁.heap s'.heap := fun b o hb e => F.keep b o ((Heap.hide_ne s₁.heap hb).trans e)
  have h1 : s'.heap.TableAt 67 65 (#[] ++ ps) := ⟨⟨o, vs, hx _ _ (by decide) e, hc, hd, h11'⟩, by rw [Array.empty_append]; exact (N _ hm).1⟩
  exact (OldK.refl s₁.heap).step_table h0 h0 h1 hx (by decide)
theorem ints8 {ys : List Value} {f : Int → Int} (h : IntsAre ys ((rangeKs 0 (8 - 0 : Int).toNat).map f)) : ∃ (g0 g1 g2 g3 g4 g5 g6 g7 : Int) (t0 t1 t2 t3 t4 t5 t6 t7 : Tok),
    ys = [.int g0 t0, .int g1 t1, .int g2 t2, .int g3 t3, .int g4 t4, .int g5 t5, .int g6 t6, .int g7 t7] := by
  have h' : IntsAre ys [f 0, f 1, f 2, f 3, f 4, f 5, f 6, f 7] := h
  obtain ⟨b0, b1, b2, b3, z1, e1, h1⟩ := ints4 h'
  obtain ⟨b4, b5, b6, b7, z2, e2, h2⟩ := ints4 h1
  have e3 : z2 = [] := by cases h2; rfl
  exact ⟨f 0, f 1, f 2, f 3, f 4, f 5, f 6, f 7, b0, b1, b2, b3, b4, b5, b6, b7, by rw [e1, e2, e3]⟩
end Mine
namespace Mine
theorem genPost {M : Model} {A : Around} {t : Sem Flow} {Q : Flow → Shared → Prop} {E : Value → Shared → Prop} {s : Shared} (P : (Flow → Shared → Prop) → Prop) (h1 : P Q) (h2 : ∀ Q', P Q' → wpAny M A t Q' (fun _ _ => False) s) : wpAny M A t Q E s := wpAny_noRaise (h2 Q h1)
theorem fmodTwo (g : Int) : g.fmod 2 = 0 ∨ g.fmod 2 = 1 := by
  rw [Int.fmod_eq_emod_of_nonneg _ (by decide)]; omega
def primes10 : List Int := [7, 11, 13, 17, 19, 23, 29, 31, 4002409555221667393417789825735904156556882819939007885332058136124031650490837864442687629129015664037894272559787, 21888242871839275222246405745257275088696311157297823662689037894645226208583]
theorem prime7 (g : Int) : 7 ≤ primes10.getD (g.fmod 10).toNat 0 := by
  have h : (g.fmod 10).toNat < 10 := by
    rw [Int.fmod_eq_emod_of_nonneg _ (by decide)]; omega
  generalize (g.fmod 10).toNat = n at h
  have : ∀ n : Fin 10, 7 ≤ primes10.getD n.1 0 := by decide
  exact this ⟨n, h⟩
end Mine
namespace Mine
theorem primeCell {o : Obj} {g : Int} {t : Tok} (h : o.data = .cell (some (.int (primes10.getD (g.fmod 10).toNat 0) t))) : ∃ P : Int, 7 ≤ P ∧ o.data = .cell (some (.int P t)) := ⟨_, prime7 g, h⟩
end Mine

end

section
namespace Mine
theorem fmZero (P : Int) : (0 : Int).fmod P = 0 := Int.zero_fmod P
theorem fmFm (a P : Int) : (a.fmod P).fmod P = a.fmod P := Int.fmod_fmod a P
theorem fmNeg (a P : Int) : (-(a.fmod P)).fmod P = (-a).fmod P := by
  have h := Int.sub_fmod 0 a P
  rw [Int.zero_fmod, Int.zero_sub, Int.zero_sub] at h
  exact h.symm
theorem fmSub1 (a b P : Int) : (a.fmod P - b.fmod P).fmod P = (a - 1 * b).fmod P := by rw [← Int.sub_fmod, Int.one_mul]
theorem fmMul (a c P : Int) : (a.fmod P * c).fmod P = (a * c).fmod P := by
  have e : a = P * a.fdiv P + a.fmod P := (Int.mul_fdiv_add_fmod a P).symm
  have h : a * c = a.fmod P * c + P * (a.fdiv P * c) := by
    conv => lhs; rw [e]
    rw [Int.add_mul, Int.mul_assoc, Int.add_comm]
  rw [h, Int.add_mul_fmod_self_left]
theorem fmSubR (a b P : Int) : (a - b.fmod P).fmod P = (a - b).fmod P := by
  rw [Int.sub_fmod a b P, Int.sub_fmod a (b.fmod P) P, Int.fmod_fmod]
theorem fmSub9 (a b P : Int) : (a.fmod P - b.fmod P * 9).fmod P = (a - 9 * b).fmod P := by
  rw [Int.sub_fmod, fmMul, Int.fmod_fmod, ← Int.sub_fmod, Int.mul_comm]
theorem negSub1 (a b : Int) : -(a - 1 * b) = -a - 1 * -b := by omega
theorem negSub9 (a b : Int) : -(a - 9 * b) = -a - 9 * -b := by omega
end Mine
namespace Mine
theorem fmOne {P : Int} (h : 7 ≤ P) : (1 : Int).fmod P = 1 := by
  rw [Int.fmod_eq_emod_of_nonneg _ (by omega)]
  exact Int.emod_eq_of_lt (by decide) (by omega)
end Mine

end

section
open PySem PySem.W PyProof.Rows PySem.Calls PyProof.Rows.LCg
set_option Elab.async false
set_option maxRecDepth 100000
namespace Mine
theorem trimT42 {w : World} {g h : Heap} {L : Addr} {m : Str → Option Value} {news : List (Addr × Obj)} {a ax0 ad0 am0 aD0 ax1 ad1 am1 aD1 ax2 ad2 am2 aD2 b bx0 bd0 bm0 bD0 bx1 bd1 bm1 bD1 bx2 bd2 bm2 bD2 D pa pb pc z : Addr} {aj0_0 aj0_1 aj0_2 aj0_3 aj0_4 ae0 at0_0 at0_1 at0_2 at0_3 at0_4 at0_5 at0_6 at0_7 at0_8 at0_9 at0_10 at0_11 aj1_0 aj1_1 aj1_2 aj1_3 aj1_4 ae1 at1_0 at1_1 at1_2 at1_3 at1_4 at1_5 at1_6 at1_7 at1_8 at1_9 at1_10 at1_11 aj2_0 aj2_1 aj2_2 aj2_3 aj2_4 ae2 at2_0 at2_1 at2_2 at2_3 at2_4 at2_5 at2_6 at2_7 at2_8 at2_9 at2_10 at2_11 bj0_0 bj0_1 bj0_2 bj0_3 bj0_4 be0 bt0_0 bt0_1 bt0_2 bt0_3 bt0_4 bt0_5 bt0_6 bt0_7 bt0_8 bt0_9 bt0_10 bt0_11 bj1_0 bj1_1 bj1_2 bj1_3 bj1_4 be1 bt1_0 bt1_1 bt1_2 bt1_3 bt1_4 bt1_5 bt1_6 bt1_7 bt1_8 bt1_9 bt1_10 bt1_11 bj2_0 bj2_1 bj2_2 bj2_3 bj2_4 be2 bt2_0 bt2_1 bt2_2 bt2_3 bt2_4 bt2_5 bt2_6 bt2_7 bt2_8 bt2_9 bt2_10 bt2_11 u2 u3 u4 u5 u6 u7 tk : Tok} {av0_0 av0_1 av0_2 av0_3 av0_4 av0_5 av0_6 av0_7 av0_8 av0_9 av0_10 av0_11 av1_0 av1_1 av1_2 av1_3 av1_4 av1_5 av1_6 av1_7 av1_8 av1_9 av1_10 av1_11 av2_0 av2_1 av2_2 av2_3 av2_4 av2_5 av2_6 av2_7 av2_8 av2_9 av2_10 av2_11 bv0_0 bv0_1 bv0_2 bv0_3 bv0_4 bv0_5 bv0_6 bv0_7 bv0_8 bv0_9 bv0_10 bv0_11 bv1_0 bv1_1 bv1_2 bv1_3 bv1_4 bv1_5 bv1_6 bv1_7 bv1_8 bv1_9 bv1_10 bv1_11 bv2_0 bv2_1 bv2_2 bv2_3 bv2_4 bv2_5 bv2_6 bv2_7 bv2_8 bv2_9 bv2_10 bv2_11 g2 g3 g4 g5 g6 g7 P : Int} {oz oc : Obj} {ps : Array Value}
   (uF : Fr g L h m) (N : News g L h news) (uha : m (Str.ofString "found") = some (.ref a)) (uhb : m (Str.ofString "turned") = some (.ref b)) (uhD : m (Str.ofString "pairs") = some (.ref D)) (uhz : m (Str.ofString "places") = some (.ref z))
   (m0 : (a, tupO [.ref ax0, .ref ax1, .ref ax2]) ∈ news) (m1 : (ax0, instObj 177 ad0) ∈ news) (m2 : (ad0, fqD w aj0_0 aj0_1 aj0_2 aj0_3 aj0_4 P tk am0 aD0 42 12 ae0) ∈ news) (m3 : (aD0, tupO [.int av0_0 at0_0, .int av0_1 at0_1, .int av0_2 at0_2, .int av0_3 at0_3, .int av0_4 at0_4, .int av0_5 at0_5, .int av0_6 at0_6, .int av0_7 at0_7, .int av0_8 at0_8, .int av0_9 at0_9, .int av0_10 at0_10, .int av0_11 at0_11]) ∈ news) (m4 : (ax1, instObj 177 ad1) ∈ news) (m5 : (ad1, fqD w aj1_0 aj1_1 aj1_2 aj1_3 aj1_4 P tk am1 aD1 42 12 ae1) ∈ news) (m6 : (aD1, tupO [.int av1_0 at1_0, .int av1_1 at1_1, .int av1_2 at1_2, .int av1_3 at1_3, .int av1_4 at1_4, .int av1_5 at1_5, .int av1_6 at1_6, .int av1_7 at1_7, .int av1_8 at1_8, .int av1_9 at1_9, .int av1_10 at1_10, .int av1_11 at1_11]) ∈ news) (m7 : (ax2, instObj 177 ad2) ∈ news) (m8 : (ad2, fqD w aj2_0 aj2_1 aj2_2 aj2_3 aj2_4 P tk am2 aD2 42 12 ae2) ∈ news) (m9 : (aD2, tupO [.int av2_0 at2_0, .int av2_1 at2_1, .int av2_2 at2_2, .int av2_3 at2_3, .int av2_4 at2_4, .int av2_5 at2_5, .int av2_6 at2_6, .int av2_7 at2_7, .int av2_8 at2_8, .int av2_9 at2_9, .int av2_10 at2_10, .int av2_11 at2_11]) ∈ news) (m10 : (b, tupO [.ref bx0, .ref bx1, .ref bx2]) ∈ news) (m11 : (bx0, instObj 177 bd0) ∈ news) (m12 : (bd0, fqD w bj0_0 bj0_1 bj0_2 bj0_3 bj0_4 P tk bm0 bD0 42 12 be0) ∈ news) (m13 : (bD0, tupO [.int bv0_0 bt0_0, .int bv0_1 bt0_1, .int bv0_2 bt0_2, .int bv0_3 bt0_3, .int bv0_4 bt0_4, .int bv0_5 bt0_5, .int bv0_6 bt0_6, .int bv0_7 bt0_7, .int bv0_8 bt0_8, .int bv0_9 bt0_9, .int bv0_10 bt0_10, .int bv0_11 bt0_11]) ∈ news) (m14 : (bx1, instObj 177 bd1) ∈ news) (m15 : (bd1, fqD w bj1_0 bj1_1 bj1_2 bj1_3 bj1_4 P tk bm1 bD1 42 12 be1) ∈ news) (m16 : (bD1, tupO [.int bv1_0 bt1_0, .int bv1_1 bt1_1, .int bv1_2 bt1_2, .int bv1_3 bt1_3, .int bv1_4 bt1_4, .int bv1_5 bt1_5, .int bv1_6 bt1_6, .int bv1_7 bt1_7, .int bv1_8 bt1_8, .int bv1_9 bt1_9, .int bv1_10 bt1_10, .int bv1_11 bt1_11]) ∈ news) (m17 : (bx2, instObj 177 bd2) ∈ news) (m18 : (bd2, fqD w bj2_0 bj2_1 bj2_2 bj2_3 bj2_4 P tk bm2 bD2 42 12 be2) ∈ news) (m19 : (bD2, tupO [.int bv2_0 bt2_0, .int bv2_1 bt2_1, .int bv2_2 bt2_2, .int bv2_3 bt2_3, .int bv2_4 bt2_4, .int bv2_5 bt2_5, .int bv2_6 bt2_6, .int bv2_7 bt2_7, .int bv2_8 bt2_8, .int bv2_9 bt2_9, .int bv2_10 bt2_10, .int bv2_11 bt2_11]) ∈ news) (m20 : (D, lst [.ref pa, .ref pb, .ref pc]) ∈ news) (m21 : (pa, tupO [.int g2 u2, .int g3 u3]) ∈ news) (m22 : (pb, tupO [.int g4 u4, .int g5 u5]) ∈ news) (m23 : (pc, tupO [.int g6 u6, .int g7 u7]) ∈ news) (m24 : (z, oz) ∈ news) (m25 : (L + 1 + 1 + 1, oc) ∈ news) (m26 : (65, tabO ps) ∈ news) :
   News g L h [(a, tupO [.ref ax0, .ref ax1, .ref ax2]), (ax0, instObj 177 ad0), (ad0, fqD w aj0_0 aj0_1 aj0_2 aj0_3 aj0_4 P tk am0 aD0 42 12 ae0), (aD0, tupO [.int av0_0 at0_0, .int av0_1 at0_1, .int av0_2 at0_2, .int av0_3 at0_3, .int av0_4 at0_4, .int av0_5 at0_5, .int av0_6 at0_6, .int av0_7 at0_7, .int av0_8 at0_8, .int av0_9 at0_9, .int av0_10 at0_10, .int av0_11 at0_11]), (ax1, instObj 177 ad1), (ad1, fqD w aj1_0 aj1_1 aj1_2 aj1_3 aj1_4 P tk am1 aD1 42 12 ae1), (aD1, tupO [.int av1_0 at1_0, .int av1_1 at1_1, .int av1_2 at1_2, .int av1_3 at1_3, .int av1_4 at1_4, .int av1_5 at1_5, .int av1_6 at1_6, .int av1_7 at1_7, .int av1_8 at1_8, .int av1_9 at1_9, .int av1_10 at1_10, .int av1_11 at1_11]), (ax2, instObj 177 ad2), (ad2, fqD w aj2_0 aj2_1 aj2_2 aj2_3 aj2_4 P tk am2 aD2 42 12 ae2), (aD2, tupO [.int av2_0 at2_0, .int av2_1 at2_1, .int av2_2 at2_2, .int av2_3 at2_3, .int av2_4 at2_4, .int av2_5 at2_5, .int av2_6 at2_6, .int av2_7 at2_7, .int av2_8 at2_8, .int av2_9 at2_9, .int av2_10 at2_10, .int av2_11 at2_11]), (b, tupO [.ref bx0, .ref bx1, .ref bx2]), (bx0, instObj 177 bd0), (bd0, fqD w bj0_0 bj0_1 bj0_2 bj0_3 bj0_4 P tk bm0 bD0 42 12 be0), (bD0, tupO [.int bv0_0 bt0_0, .int bv0_1 bt0_1, .int bv0_2 bt0_2, .int bv0_3 bt0_3, .int bv0_4 bt0_4, .int bv0_5 bt0_5, .int bv0_6 bt0_6, .int bv0_7 bt0_7, .int bv0_8 bt0_8, .int bv0_9 bt0_9, .int bv0_10 bt0_10, .int bv0_11 bt0_11]), (bx1, instObj 177 bd1), (bd1, fqD w bj1_0 bj1_1 bj1_2 bj1_3 bj1_4 P tk bm1 bD1 42 12 be1), (bD1, tupO [.int bv1_0 bt1_0, .int bv1_1 bt1_1, .int bv1_2 bt1_2, .int bv1_3 bt1_3, .int bv1_4 bt1_4, .int bv1_5 bt1_5, .int bv1_6 bt1_6, .int bv1_7 bt1_7, .int bv1_8 bt1_8, .int bv1_9 bt1_9, .int bv1_10 bt1_10, .int bv1_11 bt1_11]), (bx2, instObj 177 bd2), (bd2, fqD w bj2_0 bj2_1 bj2_2 bj2_3 bj2_4 P tk bm2 bD2 42 12 be2), (bD2, tupO [.int bv2_0 bt2_0, .int bv2_1 bt2_1, .int bv2_2 bt2_2, .int bv2_3 bt2_3, .int bv2_4 bt2_4, .int bv2_5 bt2_5, .int bv2_6 bt2_6, .int bv2_7 bt2_7, .int bv2_8 bt2_8, .int bv2_9 bt2_9, .int bv2_10 bt2_10, .int bv2_11 bt2_11]), (D, lst [.ref pa, .ref pb, .ref pc]), (pa, tupO [.int g2 u2, .int g3 u3]), (pb, tupO [.int g4 u4, .int g5 u5]), (pc, tupO [.int g6 u6, .int g7 u7]), (z, oz), (L + 1 + 1 + 1, oc), (65, tabO ps)] := by
  refine newsSub N ?_
  refine List.forall_mem_cons.mpr ⟨m0, ?_⟩
  refine List.forall_mem_cons.mpr ⟨m1, ?_⟩
  refine List.forall_mem_cons.mpr ⟨m2, ?_⟩
  refine List.forall_mem_cons.mpr ⟨m3, ?_⟩
  refine List.forall_mem_cons.mpr ⟨m4, ?_⟩
  refine List.forall_mem_cons.mpr ⟨m5, ?_⟩
  refine List.forall_mem_cons.mpr ⟨m6, ?_⟩
  refine List.forall_mem_cons.mpr ⟨m7, ?_⟩
  refine List.forall_mem_cons.mpr ⟨m8, ?_⟩
  refine List.forall_mem_cons.mpr ⟨m9, ?_⟩
  refine List.forall_mem_cons.mpr ⟨m10, ?_⟩
  refine List.forall_mem_cons.mpr ⟨m11, ?_⟩
  refine List.forall_mem_cons.mpr ⟨m12, ?_⟩
  refine List.forall_mem_cons.mpr ⟨m13, ?_⟩
  refine List.forall_mem_cons.mpr ⟨m14, ?_⟩
  refine List.forall_mem_cons.mpr ⟨m15, ?_⟩
  refine List.forall_mem_cons.mpr ⟨m16, ?_⟩
  refine List.forall_mem_cons.mpr ⟨m17, ?_⟩
  refine List.forall_mem_cons.mpr ⟨m18, ?_⟩
  refine List.forall_mem_cons.mpr ⟨m19, ?_⟩
  refine List.forall_mem_cons.mpr ⟨m20, ?_⟩
  refine List.forall_mem_cons.mpr ⟨m21, ?_⟩
  refine List.forall_mem_cons.mpr ⟨m22, ?_⟩
  refine List.forall_mem_cons.mpr ⟨m23, ?_⟩
  refine List.forall_mem_cons.mpr ⟨m24, ?_⟩
  refine List.forall_mem_cons.mpr ⟨m25, ?_⟩
  refine List.forall_mem_cons.mpr ⟨m26, ?_⟩
  exact List.forall_mem_nil _
theorem trimF42 {w : World} {g h : Heap} {L : Addr} {m : Str → Option Value} {news : List (Addr × Obj)} {a ax0 ad0 am0 aD0 ax1 ad1 am1 aD1 ax2 ad2 am2 aD2 D pa pb pc z : Addr} {aj0_0 aj0_1 aj0_2 aj0_3 aj0_4 ae0 at0_0 at0_1 at0_2 at0_3 at0_4 at0_5 at0_6 at0_7 at0_8 at0_9 at0_10 at0_11 aj1_0 aj1_1 aj1_2 aj1_3 aj1_4 ae1 at1_0 at1_1 at1_2 at1_3 at1_4 at1_5 at1_6 at1_7 at1_8 at1_9 at1_10 at1_11 aj2_0 aj2_1 aj2_2 aj2_3 aj2_4 ae2 at2_0 at2_1 at2_2 at2_3 at2_4 at2_5 at2_6 at2_7 at2_8 at2_9 at2_10 at2_11 u2 u3 u4 u5 u6 u7 tk : Tok} {av0_0 av0_1 av0_2 av0_3 av0_4 av0_5 av0_6 av0_7 av0_8 av0_9 av0_10 av0_11 av1_0 av1_1 av1_2 av1_3 av1_4 av1_5 av1_6 av1_7 av1_8 av1_9 av1_10 av1_11 av2_0 av2_1 av2_2 av2_3 av2_4 av2_5 av2_6 av2_7 av2_8 av2_9 av2_10 av2_11 g2 g3 g4 g5 g6 g7 P : Int} {oz oc : Obj} {ps : Array Value}
   (uF : Fr g L h m) (N : News g L h news) (uha : m (Str.ofString "found") = some (.ref a)) (uhD : m (Str.ofString "pairs") = some (.ref D)) (uhz : m (Str.ofString "places") = some (.ref z))
   (m0 : (a, tupO [.ref ax0, .ref ax1, .ref ax2]) ∈ news) (m1 : (ax0, instObj 177 ad0) ∈ news) (m2 : (ad0, fqD w aj0_0 aj0_1 aj0_2 aj0_3 aj0_4 P tk am0 aD0 42 12 ae0) ∈ news) (m3 : (aD0, tupO [.int av0_0 at0_0, .int av0_1 at0_1, .int av0_2 at0_2, .int av0_3 at0_3, .int av0_4 at0_4, .int av0_5 at0_5, .int av0_6 at0_6, .int av0_7 at0_7, .int av0_8 at0_8, .int av0_9 at0_9, .int av0_10 at0_10, .int av0_11 at0_11]) ∈ news) (m4 : (ax1, instObj 177 ad1) ∈ news) (m5 : (ad1, fqD w aj1_0 aj1_1 aj1_2 aj1_3 aj1_4 P tk am1 aD1 42 12 ae1) ∈ news) (m6 : (aD1, tupO [.int av1_0 at1_0, .int av1_1 at1_1, .int av1_2 at1_2, .int av1_3 at1_3, .int av1_4 at1_4, .int av1_5 at1_5, .int av1_6 at1_6, .int av1_7 at1_7, .int av1_8 at1_8, .int av1_9 at1_9, .int av1_10 at1_10, .int av1_11 at1_11]) ∈ news) (m7 : (ax2, instObj 177 ad2) ∈ news) (m8 : (ad2, fqD w aj2_0 aj2_1 aj2_2 aj2_3 aj2_4 P tk am2 aD2 42 12 ae2) ∈ news) (m9 : (aD2, tupO [.int av2_0 at2_0, .int av2_1 at2_1, .int av2_2 at2_2, .int av2_3 at2_3, .int av2_4 at2_4, .int av2_5 at2_5, .int av2_6 at2_6, .int av2_7 at2_7, .int av2_8 at2_8, .int av2_9 at2_9, .int av2_10 at2_10, .int av2_11 at2_11]) ∈ news) (m10 : (D, lst [.ref pa, .ref pb, .ref pc]) ∈ news) (m11 : (pa, tupO [.int g2 u2, .int g3 u3]) ∈ news) (m12 : (pb, tupO [.int g4 u4, .int g5 u5]) ∈ news) (m13 : (pc, tupO [.int g6 u6, .int g7 u7]) ∈ news) (m14 : (z, oz) ∈ news) (m15 : (L + 1 + 1 + 1, oc) ∈ news) (m16 : (65, tabO ps) ∈ news) :
   News g L h [(a, tupO [.ref ax0, .ref ax1, .ref ax2]), (ax0, instObj 177 ad0), (ad0, fqD w aj0_0 aj0_1 aj0_2 aj0_3 aj0_4 P tk am0 aD0 42 12 ae0), (aD0, tupO [.int av0_0 at0_0, .int av0_1 at0_1, .int av0_2 at0_2, .int av0_3 at0_3, .int av0_4 at0_4, .int av0_5 at0_5, .int av0_6 at0_6, .int av0_7 at0_7, .int av0_8 at0_8, .int av0_9 at0_9, .int av0_10 at0_10, .int av0_11 at0_11]), (ax1, instObj 177 ad1), (ad1, fqD w aj1_0 aj1_1 aj1_2 aj1_3 aj1_4 P tk am1 aD1 42 12 ae1), (aD1, tupO [.int av1_0 at1_0, .int av1_1 at1_1, .int av1_2 at1_2, .int av1_3 at1_3, .int av1_4 at1_4, .int av1_5 at1_5, .int av1_6 at1_6, .int av1_7 at1_7, .int av1_8 at1_8, .int av1_9 at1_9, .int av1_10 at1_10, .int av1_11 at1_11]), (ax2, instObj 177 ad2), (ad2, fqD w aj2_0 aj2_1 aj2_2 aj2_3 aj2_4 P tk am2 aD2 42 12 ae2), (aD2, tupO [.int av2_0 at2_0, .int av2_1 at2_1, .int av2_2 at2_2, .int av2_3 at2_3, .int av2_4 at2_4, .int av2_5 at2_5, .int av2_6 at2_6, .int av2_7 at2_7, .int av2_8 at2_8, .int av2_9 at2_9, .int av2_10 at2_10, .int av2_11 at2_11]), (D, lst [.ref pa, .ref pb, .ref pc]), (pa, tupO [.int g2 u2, .int g3 u3]), (pb, tupO [.int g4 u4, .int g5 u5]), (pc, tupO [.int g6 u6, .int g7 u7]), (z, oz), (L + 1 + 1 + 1, oc), (65, tabO ps)] := by
  refine newsSub N ?_
  refine List.forall_mem_cons.mpr ⟨m0, ?_⟩
  refine List.forall_mem_cons.mpr ⟨m1, ?_⟩
  refine List.forall_mem_cons.mpr ⟨m2, ?_⟩
  refine List.forall_mem_cons.mpr ⟨m3, ?_⟩
  refine List.forall_mem_cons.mpr ⟨m4, ?_⟩
  refine List.forall_mem_cons.mpr ⟨m5, ?_⟩
  refine List.forall_mem_cons.mpr ⟨m6, ?_⟩
  refine List.forall_mem_cons.mpr ⟨m7, ?_⟩
  refine List.forall_mem_cons.mpr ⟨m8, ?_⟩
  refine List.forall_mem_cons.mpr ⟨m9, ?_⟩
  refine List.forall_mem_cons.mpr ⟨m10, ?_⟩
  refine List.forall_mem_cons.mpr ⟨m11, ?_⟩
  refine List.forall_mem_cons.mpr ⟨m12, ?_⟩
  refine List.forall_mem_cons.mpr ⟨m13, ?_⟩
  refine List.forall_mem_cons.mpr ⟨m14, ?_⟩
  refine List.forall_mem_cons.mpr ⟨m15, ?_⟩
  refine List.forall_mem_cons.mpr ⟨m16, ?_⟩
  exact List.forall_mem_nil _
theorem trimF39 {w : World} {g h : Heap} {L : Addr} {m : Str → Option Value} {news : List (Addr × Obj)} {a ax0 ad0 am0 aD0 ax1 ad1 am1 aD1 ax2 ad2 am2 aD2 D pa pb pc z : Addr} {aj0_0 aj0_1 aj0_2 aj0_3 aj0_4 ae0 at0_0 at0_1 at0_2 at0_3 at0_4 at0_5 at0_6 at0_7 at0_8 at0_9 at0_10 at0_11 aj1_0 aj1_1 aj1_2 aj1_3 aj1_4 ae1 at1_0 at1_1 at1_2 at1_3 at1_4 at1_5 at1_6 at1_7 at1_8 at1_9 at1_10 at1_11 aj2_0 aj2_1 aj2_2 aj2_3 aj2_4 ae2 at2_0 at2_1 at2_2 at2_3 at2_4 at2_5 at2_6 at2_7 at2_8 at2_9 at2_10 at2_11 u2 u3 u4 u5 u6 u7 tk : Tok} {av0_0 av0_1 av0_2 av0_3 av0_4 av0_5 av0_6 av0_7 av0_8 av0_9 av0_10 av0_11 av1_0 av1_1 av1_2 av1_3 av1_4 av1_5 av1_6 av1_7 av1_8 av1_9 av1_10 av1_11 av2_0 av2_1 av2_2 av2_3 av2_4 av2_5 av2_6 av2_7 av2_8 av2_9 av2_10 av2_11 g2 g3 g4 g5 g6 g7 P : Int} {oz oc : Obj} {ps : Array Value}
   (uF : Fr g L h m) (N : News g L h news) (uha : m (Str.ofString "found") = some (.ref a)) (uhD : m (Str.ofString "pairs") = some (.ref D)) (uhz : m (Str.ofString "places") = some (.ref z))
   (m0 : (a, tupO [.ref ax0, .ref ax1, .ref ax2]) ∈ news) (m1 : (ax0, instObj 177 ad0) ∈ news) (m2 : (ad0, fqD w aj0_0 aj0_1 aj0_2 aj0_3 aj0_4 P tk am0 aD0 39 12 ae0) ∈ news) (m3 : (aD0, tupO [.int av0_0 at0_0, .int av0_1 at0_1, .int av0_2 at0_2, .int av0_3 at0_3, .int av0_4 at0_4, .int av0_5 at0_5, .int av0_6 at0_6, .int av0_7 at0_7, .int av0_8 at0_8, .int av0_9 at0_9, .int av0_10 at0_10, .int av0_11 at0_11]) ∈ news) (m4 : (ax1, instObj 177 ad1) ∈ news) (m5 : (ad1, fqD w aj1_0 aj1_1 aj1_2 aj1_3 aj1_4 P tk am1 aD1 39 12 ae1) ∈ news) (m6 : (aD1, tupO [.int av1_0 at1_0, .int av1_1 at1_1, .int av1_2 at1_2, .int av1_3 at1_3, .int av1_4 at1_4, .int av1_5 at1_5, .int av1_6 at1_6, .int av1_7 at1_7, .int av1_8 at1_8, .int av1_9 at1_9, .int av1_10 at1_10, .int av1_11 at1_11]) ∈ news) (m7 : (ax2, instObj 177 ad2) ∈ news) (m8 : (ad2, fqD w aj2_0 aj2_1 aj2_2 aj2_3 aj2_4 P tk am2 aD2 39 12 ae2) ∈ news) (m9 : (aD2, tupO [.int av2_0 at2_0, .int av2_1 at2_1, .int av2_2 at2_2, .int av2_3 at2_3, .int av2_4 at2_4, .int av2_5 at2_5, .int av2_6 at2_6, .int av2_7 at2_7, .int av2_8 at2_8, .int av2_9 at2_9, .int av2_10 at2_10, .int av2_11 at2_11]) ∈ news) (m10 : (D, lst [.ref pa, .ref pb, .ref pc]) ∈ news) (m11 : (pa, tupO [.int g2 u2, .int g3 u3]) ∈ news) (m12 : (pb, tupO [.int g4 u4, .int g5 u5]) ∈ news) (m13 : (pc, tupO [.int g6 u6, .int g7 u7]) ∈ news) (m14 : (z, oz) ∈ news) (m15 : (L + 1 + 1 + 1, oc) ∈ news) (m16 : (65, tabO ps) ∈ news) :
   News g L h [(a, tupO [.ref ax0, .ref ax1, .ref ax2]), (ax0, instObj 177 ad0), (ad0, fqD w aj0_0 aj0_1 aj0_2 aj0_3 aj0_4 P tk am0 aD0 39 12 ae0), (aD0, tupO [.int av0_0 at0_0, .int av0_1 at0_1, .int av0_2 at0_2, .int av0_3 at0_3, .int av0_4 at0_4, .int av0_5 at0_5, .int av0_6 at0_6, .int av0_7 at0_7, .int av0_8 at0_8, .int av0_9 at0_9, .int av0_10 at0_10, .int av0_11 at0_11]), (ax1, instObj 177 ad1), (ad1, fqD w aj1_0 aj1_1 aj1_2 aj1_3 aj1_4 P tk am1 aD1 39 12 ae1), (aD1, tupO [.int av1_0 at1_0, .int av1_1 at1_1, .int av1_2 at1_2, .int av1_3 at1_3, .int av1_4 at1_4, .int av1_5 at1_5, .int av1_6 at1_6, .int av1_7 at1_7, .int av1_8 at1_8, .int av1_9 at1_9, .int av1_10 at1_10, .int av1_11 at1_11]), (ax2, instObj 177 ad2), (ad2, fqD w aj2_0 aj2_1 aj2_2 aj2_3 aj2_4 P tk am2 aD2 39 12 ae2), (aD2, tupO [.int av2_0 at2_0, .int av2_1 at2_1, .int av2_2 at2_2, .int av2_3 at2_3, .int av2_4 at2_4, .int av2_5 at2_5, .int av2_6 at2_6, .int av2_7 at2_7, .int av2_8 at2_8, .int av2_9 at2_9, .int av2_10 at2_10, .int av2_11 at2_11]), (D, lst [.ref pa, .ref pb, .ref pc]), (pa, tupO [.int g2 u2, .int g3 u3]), (pb, tupO [.int g4 u4, .int g5 u5]), (pc, tupO [.int g6 u6, .int g7 u7]), (z, oz), (L + 1 + 1 + 1, oc), (65, tabO ps)] := by
  refine newsSub N ?_
  refine List.forall_mem_cons.mpr ⟨m0, ?_⟩
  refine List.forall_mem_cons.mpr ⟨m1, ?_⟩
  refine List.forall_mem_cons.mpr ⟨m2, ?_⟩
  refine List.forall_mem_cons.mpr ⟨m3, ?_⟩
  refine List.forall_mem_cons.mpr ⟨m4, ?_⟩
  refine List.forall_mem_cons.mpr ⟨m5, ?_⟩
  refine List.forall_mem_cons.mpr ⟨m6, ?_⟩
  refine List.forall_mem_cons.mpr ⟨m7, ?_⟩
  refine List.forall_mem_cons.mpr ⟨m8, ?_⟩
  refine List.forall_mem_cons.mpr ⟨m9, ?_⟩
  refine List.forall_mem_cons.mpr ⟨m10, ?_⟩
  refine List.forall_mem_cons.mpr ⟨m11, ?_⟩
  refine List.forall_mem_cons.mpr ⟨m12, ?_⟩
  refine List.forall_mem_cons.mpr ⟨m13, ?_⟩
  refine List.forall_mem_cons.mpr ⟨m14, ?_⟩
  refine List.forall_mem_cons.mpr ⟨m15, ?_⟩
  refine List.forall_mem_cons.mpr ⟨m16, ?_⟩
  exact List.forall_mem_nil _
end Mine

end

section
open PySem PySem.W PyProof.Rows PySem.Calls
set_option Elab.async false
namespace Mine
theorem endQ {Qv : Flow → Shared → Prop} {p : Prop} [Decidable p] {s : Shared} (hp : p) (h : Qv (.ret (.bool true)) s) : Qv (.ret (.bool (decide p))) s := by rw [decide_eq_true hp]; exact h
end Mine

end

section
namespace Mine
def addAt (b : List Int) (k : Nat) (v : Int) : List Int := b.set k (b.getD k 0 + v)
def convI (x : Int) (ys : List Int) (i : Nat) (b : List Int) : Nat → List Int
  | 0 => b
  | j + 1 => addAt (convI x ys i b j) (i + j) (x * ys.getD j 0)
def convO (xs ys : List Int) : Nat → List Int
  | 0 => List.replicate 23 0
  | i + 1 => convI (xs.getD i 0) ys i (convO xs ys i) 12
def redJ (top : Int) (e : Nat) (b : List Int) : Nat → List Int
  | 0 => b
  | j + 1 => addAt (redJ top e b j) (e + [0, 6].getD j 0) (-(top * [82, -18].getD j 0))
def redI (b : List Int) : Nat → List Int
  | 0 => b
  | i + 1 => redJ ((redI b i).getLastD 0) (10 - i) (redI b i).dropLast 2
def mulL (xs ys : List Int) : List Int := redI (convO xs ys 12) 11
theorem len_addAt (b : List Int) (k : Nat) (v : Int) : (addAt b k v).length = b.length := by simp [addAt]
theorem len_convI (x : Int) (ys : List Int) (i : Nat) (b : List Int) : ∀ j, (convI x ys i b j).length = b.length
  | 0 => rfl
  | j + 1 => by rw [convI, len_addAt, len_convI x ys i b j]
theorem len_convO (xs ys : List Int) : ∀ i, (convO xs ys i).length = 23
  | 0 => by simp [convO]
  | i + 1 => by rw [convO, len_convI, len_convO xs ys i]
theorem len_redJ (top : Int) (e : Nat) (b : List Int) : ∀ j, (redJ top e b j).length = b.length
  | 0 => rfl
  | j + 1 => by rw [redJ, len_addAt, len_redJ top e b j]
theorem len_redI (b : List Int) (h : b.length = 23) : ∀ i, (redI b i).length = 23 - i
  | 0 => h
  | i + 1 => by rw [redI, len_redJ, List.length_dropLast, len_redI b h i]; omega
theorem len_mulL (xs ys : List Int) : (mulL xs ys).length = 12 := len_redI _ (len_convO xs ys 12) 11
theorem w2 : mulL [0,1,0,0,0,0,0,0,0,0,0,0] [0,1,0,0,0,0,0,0,0,0,0,0] = [0,0,1,0,0,0,0,0,0,0,0,0] := by decide +kernel
theorem w12 : mulL [1,0,0,0,0,0,0,0,0,0,0,0] [0,1,0,0,0,0,0,0,0,0,0,0] = [0,1,0,0,0,0,0,0,0,0,0,0] := by decide +kernel
theorem w22 : mulL [1,0,0,0,0,0,0,0,0,0,0,0] [0,0,1,0,0,0,0,0,0,0,0,0] = [0,0,1,0,0,0,0,0,0,0,0,0] := by decide +kernel
theorem w3 : mulL [0,1,0,0,0,0,0,0,0,0,0,0] [0,0,1,0,0,0,0,0,0,0,0,0] = [0,0,0,1,0,0,0,0,0,0,0,0] := by decide +kernel
theorem w4 : mulL [0,0,1,0,0,0,0,0,0,0,0,0] [0,0,1,0,0,0,0,0,0,0,0,0] = [0,0,0,0,1,0,0,0,0,0,0,0] := by decide +kernel
theorem addAt0 (b : List Int) (k : Nat) : addAt b k 0 = b := by
  unfold addAt
  rw [Int.add_zero]
  apply List.ext_getElem?
  intro n
  rw [List.getElem?_set]
  split
  · rename_i h
    subst h
    split
    · rename_i h; simp [List.getD_eq_getElem?_getD, h]
    · rename_i h; exact (List.getElem?_eq_none (by omega)).symm
  · rfl
theorem convI0 (ys : List Int) (i : Nat) (b : List Int) : ∀ j, convI 0 ys i b j = b
  | 0 => rfl
  | j + 1 => by rw [convI, Int.zero_mul, addAt0, convI0 ys i b j]
theorem redJ0 (e : Nat) (b : List Int) : ∀ j, redJ 0 e b j = b
  | 0 => rfl
  | j + 1 => by rw [redJ, Int.zero_mul, Int.neg_zero, addAt0, redJ0 e b j]
theorem convM2 (x : Int) (i : Nat) (b : List Int) : convI x [0,0,1,0,0,0,0,0,0,0,0,0] i b 12 = addAt b (i + 2) x := by
  show addAt (addAt (addAt (addAt (addAt (addAt (addAt (addAt (addAt (addAt (addAt (addAt b (i + 0) (x * 0)) (i + 1) (x * 0)) (i + 2) (x * 1)) (i + 3) (x * 0)) (i + 4) (x * 0)) (i + 5) (x * 0)) (i + 6) (x * 0)) (i + 7) (x * 0)) (i + 8) (x * 0)) (i + 9) (x * 0)) (i + 10) (x * 0)) (i + 11) (x * 0) = _
  simp only [Int.mul_zero, Int.mul_one, addAt0]
theorem convM3 (x : Int) (i : Nat) (b : List Int) : convI x [0,0,0,1,0,0,0,0,0,0,0,0] i b 12 = addAt b (i + 3) x := by
  show addAt (addAt (addAt (addAt (addAt (addAt (addAt (addAt (addAt (addAt (addAt (addAt b (i + 0) (x * 0)) (i + 1) (x * 0)) (i + 2) (x * 0)) (i + 3) (x * 1)) (i + 4) (x * 0)) (i + 5) (x * 0)) (i + 6) (x * 0)) (i + 7) (x * 0)) (i + 8) (x * 0)) (i + 9) (x * 0)) (i + 10) (x * 0)) (i + 11) (x * 0) = _
  simp only [Int.mul_zero, Int.mul_one, addAt0]
theorem nxw2C (a b : Int) : convO [a,0,0,0,0,0,b,0,0,0,0,0] [0,0,1,0,0,0,0,0,0,0,0,0] 12 = [0,0,a,0,0,0,0,0,b,0,0,0,0,0,0,0,0,0,0,0,0,0,0] := by
  show convI 0 [0,0,1,0,0,0,0,0,0,0,0,0] 11 (convI 0 [0,0,1,0,0,0,0,0,0,0,0,0] 10 (convI 0 [0,0,1,0,0,0,0,0,0,0,0,0] 9 (convI 0 [0,0,1,0,0,0,0,0,0,0,0,0] 8 (convI 0 [0,0,1,0,0,0,0,0,0,0,0,0] 7 (convI b [0,0,1,0,0,0,0,0,0,0,0,0] 6 (convI 0 [0,0,1,0,0,0,0,0,0,0,0,0] 5 (convI 0 [0,0,1,0,0,0,0,0,0,0,0,0] 4 (convI 0 [0,0,1,0,0,0,0,0,0,0,0,0] 3 (convI 0 [0,0,1,0,0,0,0,0,0,0,0,0] 2 (convI 0 [0,0,1,0,0,0,0,0,0,0,0,0] 1 (convI a [0,0,1,0,0,0,0,0,0,0,0,0] 0 (List.replicate 23 0) 12) 12) 12) 12) 12) 12) 12) 12) 12) 12) 12) 12 = _
  simp only [convI0]
  rw [convM2 a, convM2 b]
  simp [addAt, List.replicate]
theorem nxw2R (a b : Int) : redI [0,0,a,0,0,0,0,0,b,0,0,0,0,0,0,0,0,0,0,0,0,0,0] 11 = [0,0,a,0,0,0,0,0,b,0,0,0] := by
  have h0 : redI [0,0,a,0,0,0,0,0,b,0,0,0,0,0,0,0,0,0,0,0,0,0,0] 0 = [0,0,a,0,0,0,0,0,b,0,0,0,0,0,0,0,0,0,0,0,0,0,0] := rfl
  have h1 : redI [0,0,a,0,0,0,0,0,b,0,0,0,0,0,0,0,0,0,0,0,0,0,0] 1 = [0,0,a,0,0,0,0,0,b,0,0,0,0,0,0,0,0,0,0,0,0,0] := by rw [redI, h0]; exact redJ0 10 _ 2
  have h2 : redI [0,0,a,0,0,0,0,0,b,0,0,0,0,0,0,0,0,0,0,0,0,0,0] 2 = [0,0,a,0,0,0,0,0,b,0,0,0,0,0,0,0,0,0,0,0,0] := by rw [redI, h1]; exact redJ0 9 _ 2
  have h3 : redI [0,0,a,0,0,0,0,0,b,0,0,0,0,0,0,0,0,0,0,0,0,0,0] 3 = [0,0,a,0,0,0,0,0,b,0,0,0,0,0,0,0,0,0,0,0] := by rw [redI, h2]; exact redJ0 8 _ 2
  have h4 : redI [0,0,a,0,0,0,0,0,b,0,0,0,0,0,0,0,0,0,0,0,0,0,0] 4 = [0,0,a,0,0,0,0,0,b,0,0,0,0,0,0,0,0,0,0] := by rw [redI, h3]; exact redJ0 7 _ 2
  have h5 : redI [0,0,a,0,0,0,0,0,b,0,0,0,0,0,0,0,0,0,0,0,0,0,0] 5 = [0,0,a,0,0,0,0,0,b,0,0,0,0,0,0,0,0,0] := by rw [redI, h4]; exact redJ0 6 _ 2
  have h6 : redI [0,0,a,0,0,0,0,0,b,0,0,0,0,0,0,0,0,0,0,0,0,0,0] 6 = [0,0,a,0,0,0,0,0,b,0,0,0,0,0,0,0,0] := by rw [redI, h5]; exact redJ0 5 _ 2
  have h7 : redI [0,0,a,0,0,0,0,0,b,0,0,0,0,0,0,0,0,0,0,0,0,0,0] 7 = [0,0,a,0,0,0,0,0,b,0,0,0,0,0,0,0] := by rw [redI, h6]; exact redJ0 4 _ 2
  have h8 : redI [0,0,a,0,0,0,0,0,b,0,0,0,0,0,0,0,0,0,0,0,0,0,0] 8 = [0,0,a,0,0,0,0,0,b,0,0,0,0,0,0] := by rw [redI, h7]; exact redJ0 3 _ 2
  have h9 : redI [0,0,a,0,0,0,0,0,b,0,0,0,0,0,0,0,0,0,0,0,0,0,0] 9 = [0,0,a,0,0,0,0,0,b,0,0,0,0,0] := by rw [redI, h8]; exact redJ0 2 _ 2
  have h10 : redI [0,0,a,0,0,0,0,0,b,0,0,0,0,0,0,0,0,0,0,0,0,0,0] 10 = [0,0,a,0,0,0,0,0,b,0,0,0,0] := by rw [redI, h9]; exact redJ0 1 _ 2
  have h11 : redI [0,0,a,0,0,0,0,0,b,0,0,0,0,0,0,0,0,0,0,0,0,0,0] 11 = [0,0,a,0,0,0,0,0,b,0,0,0] := by rw [redI, h10]; exact redJ0 0 _ 2
  exact h11
theorem nxw2 (a b : Int) : mulL [a,0,0,0,0,0,b,0,0,0,0,0] [0,0,1,0,0,0,0,0,0,0,0,0] = [0,0,a,0,0,0,0,0,b,0,0,0] := by rw [mulL, nxw2C, nxw2R]
theorem nyw3C (a b : Int) : convO [a,0,0,0,0,0,b,0,0,0,0,0] [0,0,0,1,0,0,0,0,0,0,0,0] 12 = [0,0,0,a,0,0,0,0,0,b,0,0,0,0,0,0,0,0,0,0,0,0,0] := by
  show convI 0 [0,0,0,1,0,0,0,0,0,0,0,0] 11 (convI 0 [0,0,0,1,0,0,0,0,0,0,0,0] 10 (convI 0 [0,0,0,1,0,0,0,0,0,0,0,0] 9 (convI 0 [0,0,0,1,0,0,0,0,0,0,0,0] 8 (convI 0 [0,0,0,1,0,0,0,0,0,0,0,0] 7 (convI b [0,0,0,1,0,0,0,0,0,0,0,0] 6 (convI 0 [0,0,0,1,0,0,0,0,0,0,0,0] 5 (convI 0 [0,0,0,1,0,0,0,0,0,0,0,0] 4 (convI 0 [0,0,0,1,0,0,0,0,0,0,0,0] 3 (convI 0 [0,0,0,1,0,0,0,0,0,0,0,0] 2 (convI 0 [0,0,0,1,0,0,0,0,0,0,0,0] 1 (convI a [0,0,0,1,0,0,0,0,0,0,0,0] 0 (List.replicate 23 0) 12) 12) 12) 12) 12) 12) 12) 12) 12) 12) 12) 12 = _
  simp only [convI0]
  rw [convM3 a, convM3 b]
  simp [addAt, List.replicate]
theorem nyw3R (a b : Int) : redI [0,0,0,a,0,0,0,0,0,b,0,0,0,0,0,0,0,0,0,0,0,0,0] 11 = [0,0,0,a,0,0,0,0,0,b,0,0] := by
  have h0 : redI [0,0,0,a,0,0,0,0,0,b,0,0,0,0,0,0,0,0,0,0,0,0,0] 0 = [0,0,0,a,0,0,0,0,0,b,0,0,0,0,0,0,0,0,0,0,0,0,0] := rfl
  have h1 : redI [0,0,0,a,0,0,0,0,0,b,0,0,0,0,0,0,0,0,0,0,0,0,0] 1 = [0,0,0,a,0,0,0,0,0,b,0,0,0,0,0,0,0,0,0,0,0,0] := by rw [redI, h0]; exact redJ0 10 _ 2
  have h2 : redI [0,0,0,a,0,0,0,0,0,b,0,0,0,0,0,0,0,0,0,0,0,0,0] 2 = [0,0,0,a,0,0,0,0,0,b,0,0,0,0,0,0,0,0,0,0,0] := by rw [redI, h1]; exact redJ0 9 _ 2
  have h3 : redI [0,0,0,a,0,0,0,0,0,b,0,0,0,0,0,0,0,0,0,0,0,0,0] 3 = [0,0,0,a,0,0,0,0,0,b,0,0,0,0,0,0,0,0,0,0] := by rw [redI, h2]; exact redJ0 8 _ 2
  have h4 : redI [0,0,0,a,0,0,0,0,0,b,0,0,0,0,0,0,0,0,0,0,0,0,0] 4 = [0,0,0,a,0,0,0,0,0,b,0,0,0,0,0,0,0,0,0] := by rw [redI, h3]; exact redJ0 7 _ 2
  have h5 : redI [0,0,0,a,0,0,0,0,0,b,0,0,0,0,0,0,0,0,0,0,0,0,0] 5 = [0,0,0,a,0,0,0,0,0,b,0,0,0,0,0,0,0,0] := by rw [redI, h4]; exact redJ0 6 _ 2
  have h6 : redI [0,0,0,a,0,0,0,0,0,b,0,0,0,0,0,0,0,0,0,0,0,0,0] 6 = [0,0,0,a,0,0,0,0,0,b,0,0,0,0,0,0,0] := by rw [redI, h5]; exact redJ0 5 _ 2
  have h7 : redI [0,0,0,a,0,0,0,0,0,b,0,0,0,0,0,0,0,0,0,0,0,0,0] 7 = [0,0,0,a,0,0,0,0,0,b,0,0,0,0,0,0] := by rw [redI, h6]; exact redJ0 4 _ 2
  have h8 : redI [0,0,0,a,0,0,0,0,0,b,0,0,0,0,0,0,0,0,0,0,0,0,0] 8 = [0,0,0,a,0,0,0,0,0,b,0,0,0,0,0] := by rw [redI, h7]; exact redJ0 3 _ 2
  have h9 : redI [0,0,0,a,0,0,0,0,0,b,0,0,0,0,0,0,0,0,0,0,0,0,0] 9 = [0,0,0,a,0,0,0,0,0,b,0,0,0,0] := by rw [redI, h8]; exact redJ0 2 _ 2
  have h10 : redI [0,0,0,a,0,0,0,0,0,b,0,0,0,0,0,0,0,0,0,0,0,0,0] 10 = [0,0,0,a,0,0,0,0,0,b,0,0,0] := by rw [redI, h9]; exact redJ0 1 _ 2
  have h11 : redI [0,0,0,a,0,0,0,0,0,b,0,0,0,0,0,0,0,0,0,0,0,0,0] 11 = [0,0,0,a,0,0,0,0,0,b,0,0] := by rw [redI, h10]; exact redJ0 0 _ 2
  exact h11
theorem nyw3 (a b : Int) : mulL [a,0,0,0,0,0,b,0,0,0,0,0] [0,0,0,1,0,0,0,0,0,0,0,0] = [0,0,0,a,0,0,0,0,0,b,0,0] := by rw [mulL, nyw3C, nyw3R]
end Mine

end

section
open PySem PySem.W PyProof.Rows PySem.Calls PyProof.Rows.LCg
open Sem (wp)
set_option Elab.async false
set_option maxRecDepth 100000
namespace Mine
abbrev enumO (it : Addr) : Obj := { cls := .type "enumerate", dict := none, data := .fields #[.none, .bool false, .ref it, rawInt 0, .none, .none], slots := #[] }
def TupIt (o : Obj) (l : Addr) : Prop := o.cls = .type "tuple_iterator" ∧ o.data = .fields #[.ref l, .int (0 : Nat) 0]
section
variable {prog : Program} {w : World} {A : Around} {E : Value → Shared → Prop} {s : Shared} {env : Env} {h₀ : Heap} {L : Addr} {m : Str → Option Value} {news : List (Addr × Obj)}

/-- enumerate(a tuple), over a frame and a ledger -/
theorem enumK {l : Addr} {vs : List Value} {Q : Value → Shared → Prop} (F : Fr h₀ L s.heap m) (N : News h₀ L s.heap news) (hm : (l, tupO vs) ∈ news)
    (h : ∀ (I : Addr) (oI : Obj) (h' : Heap), (∀ p ∈ news, p.1 < I) → TupIt oI l → Fr h₀ L h' m → News h₀ L h' ((I + 1, enumO I) :: (I, oI) :: news) → Q (.ref (I + 1)) { s with heap := h' }) :
    wpAny (model prog w) A (call (.type "enumerate") [.ref l]) Q E s := by
  have hT : s.heap.IsTuple l vs.toArray := ⟨_, (N _ hm).1, rfl, _, rfl⟩
  refine callEnum hT fun h' hE hI _ hk => ?_
  obtain ⟨oI, hoI, hc, hd⟩ := hI
  have hL : L < s.heap.objs.size := F.ns.lt
  refine h _ oI h' (fun p hp => Heap.lt_size (N p hp).1) ⟨hc, hd⟩ (F.keeps hk) fun p hp => ?_
  rcases List.mem_cons.mp hp with rfl | hp
  · exact ⟨hE, Nat.ne_of_gt (Nat.lt_succ_of_lt hL), ktu_new F (Nat.le_succ _)⟩
  · rcases List.mem_cons.mp hp with rfl | hp
    · exact ⟨hoI, Nat.ne_of_gt hL, ktu_new F (Nat.le_refl _)⟩
    · exact ⟨hk _ _ (N p hp).1, (N p hp).2⟩

/-- list(that enumerate): the pairs in their order -/
theorem listEnumK {I l : Addr} {oI : Obj} {vs : List Value} {Q : Value → Shared → Prop} (hh : A.handled = none) (F : Fr h₀ L s.heap m) (N : News h₀ L s.heap ((I + 1, enumO I) :: (I, oI) :: news)) (hI : TupIt oI l)
    (hm : (l, tupO vs) ∈ news) (hlt : ∀ p ∈ news, p.1 < I) (hsz : vs.length ≤ sizeLine)
    (h : ∀ (S : Addr) (Ts : List Addr) (c : Nat) (h' : Heap) (tk : Nat), Ts.length = vs.length → Fr h₀ L h' m → (∀ p ∈ news, p.1 < S) → News h₀ L h' ((S, { cls := .type "list", data := .seq (Ts.map Value.ref).toArray c }) :: news) →
      (∀ (j : Nat) (T : Addr), Ts[j]? = some T → ∃ t x, vs[j]? = some x ∧ h'.get? T = some (pairO j t x) ∧ T ≠ L ∧ h₀.get? T = none ∧ S < T) → Q (.ref S) { s with heap := h', toks := tk }) :
    wpAny (model prog w) A (call (.type "list") [.ref (I + 1)]) Q E s := by
  have z1 := N _ List.mem_cons_self
  have z2 := N _ (List.mem_cons_of_mem _ List.mem_cons_self)
  have N3 : News h₀ L s.heap news := fun p hp => N p (List.mem_cons_of_mem _ (List.mem_cons_of_mem _ hp))
  have hll : l < I := hlt _ hm
  have hIe : I + 1 ≠ I := Nat.succ_ne_self _
  have hle : l ≠ I + 1 := Nat.ne_of_lt (Nat.lt_succ_of_lt hll)
  have hsv : vs.toArray.size = vs.length := by simp
  refine listEnum hh hIe hle (Nat.ne_of_lt hll) (by rw [hsv]; exact hsz) z1.1 ⟨oI, z2.1, hI⟩ ⟨_, (N3 _ hm).1, rfl, _, rfl⟩ fun h' tk Ts c hk hlen hS hP => ?_
  have hL : L < s.heap.objs.size := F.ns.lt
  have old : ∀ b o, h₀.get? b = some o → b ≠ I + 1 ∧ b ≠ I := fun b o e => ⟨fun q => (by rw [q, z1.2.2] at e; cases e), fun q => (by rw [q, z2.2.2] at e; cases e)⟩
  have F' : Fr h₀ L h' m := ⟨F.ns.at' fun o e => hk L o (Ne.symm z1.2.1) (Ne.symm z2.2.1) e, fun b o e => hk b o (old b o e).1 (old b o e).2 (F.keep b o e), F.above⟩
  refine h _ Ts c h' tk (by rw [hlen, hsv]) F' (fun p hp => Heap.lt_size (N3 p hp).1) (fun p hp => ?_) fun j T e => ?_
  · rcases List.mem_cons.mp hp with rfl | hp
    · exact ⟨hS, Nat.ne_of_gt hL, ktu_new F (Nat.le_refl _)⟩
    · have := hlt p hp
      exact ⟨hk _ _ (Nat.ne_of_lt (Nat.lt_succ_of_lt this)) (Nat.ne_of_lt this) (N3 p hp).1, (N3 p hp).2⟩
  · obtain ⟨hlo, t, x, hx, hT⟩ := hP j T e
    exact ⟨t, x, by simpa using hx, hT, Nat.ne_of_gt (Nat.lt_of_lt_of_le (Nat.lt_succ_of_lt hL) hlo), ktu_new F (Nat.le_of_succ_le hlo), hlo⟩

theorem AllObj.mono : ∀ {ws : List (Addr × String)} {k k' : List (Addr × Obj) → Prop}, (∀ its, k its → k' its) → AllObj ws k → AllObj ws k'
  | [], _, _, h, x => h _ x
  | w :: r, k, k', h, x => fun o ho => AllObj.mono (ws := r) (fun its => h ((w.1, o) :: its)) (x o ho)

/-- the turns of a loop by an invariant over the frame's names and the ledger -/
theorem itemsInv {target : Expr} {body : List Stmt} {Q : Flow → Shared → Prop} {ws : List (Addr × String)} {keep : List (Addr × Obj)} {xs : List Itm} (J : Nat → (Str → Option Value) → List (Addr × Obj) → Prop)
    (step : ∀ i a m₁ news₁, xs[i]? = some a → J i m₁ news₁ → SubL keep news₁ → ∀ v h tk, a.Is v h → Fr h₀ env.locals h m₁ → AllObj ws (fun its => News h₀ env.locals h (its ++ news₁) →
      wpAny (model prog w) A (assign target env v) (fun _ s₂ => wpAny (model prog w) A (execs body env) (UnrPostW h₀ env.locals { s with heap := h, toks := tk } its (fun m' n' => SubL keep n' ∧ J (i + 1) m' n') Q) E s₂) E { s with heap := h, toks := tk }))
    (done : ∀ m₁ news₁ h tk, J xs.length m₁ news₁ → Fr h₀ env.locals h m₁ → News h₀ env.locals h news₁ → Q .next { s with heap := h, toks := tk })
    (h0 : J 0 m news) (hk : SubL keep news) : ItemsRest prog w A E h₀ env target body Q s ws keep xs m news := by
  have key : ∀ (r : List Itm) (i : Nat) (m₁ : Str → Option Value) (news₁ : List (Addr × Obj)), xs.drop i = r → i ≤ xs.length → J i m₁ news₁ → SubL keep news₁ → ItemsRest prog w A E h₀ env target body Q s ws keep r m₁ news₁ := by
    intro r
    induction r with
    | nil =>
      intro i m₁ news₁ hd hi hj _
      have hl : xs.length ≤ i := List.drop_eq_nil_iff.mp hd
      obtain rfl : i = xs.length := Nat.le_antisymm hi hl
      exact fun h tk F' N' => done m₁ news₁ h tk hj F' N'
    | cons a r ih =>
      intro i m₁ news₁ hd hi hj hk₁
      have hlt : i < xs.length := by
        rcases Nat.lt_or_ge i xs.length with h | h
        · exact h
        · rw [List.drop_eq_nil_of_le h] at hd; cases hd
      rw [List.drop_eq_getElem_cons hlt] at hd
      injection hd with e1 e2
      have hx : xs[i]? = some a := by rw [List.getElem?_eq_getElem hlt, e1]
      intro v h tk hv F'
      refine AllObj.mono (fun its hk2 N' => ?_) (step i a m₁ news₁ hx hj hk₁ v h tk hv F')
      refine wpAny_mono (hk2 N') (fun _ s₂ h₂ => wpAny_mono h₂ (fun f s₃ p => ?_) fun _ _ e => e) fun _ _ e => e
      have fin : UnrEndW h₀ env.locals { s with heap := h, toks := tk } its (fun m' n' => SubL keep n' ∧ J (i + 1) m' n') s₃ →
          UnrEndW h₀ env.locals { s with heap := h, toks := tk } its (fun m' n' => SubL keep n' ∧ ItemsRest prog w A E h₀ env target body Q s ws keep r m' n') s₃ := by
        rintro ⟨h', tk', m', n', e, F2, N2, o2, k2, j2⟩
        exact ⟨h', tk', m', n', e, F2, N2, o2, k2, ih (i + 1) m' n' e2 hlt j2 k2⟩
      cases f with
      | ret v => exact p
      | brk => exact p
      | next => exact fin p
      | cont => exact fin p
  exact key xs 0 m news (List.drop_zero) (Nat.zero_le _) h0 hk

/-- for .. in enumerate(a tuple) -/
theorem turnsEnum {elts : List Expr} {k : Nat} {pos : Pos} {body : List Stmt} {Q : Flow → Shared → Prop} {l : Addr} {vs : List Value} (hh : A.handled = none) (F : Fr h₀ env.locals s.heap m) (N : News h₀ env.locals s.heap news) (hm : (l, tupO vs) ∈ news)
    (rest₀ : ∀ I : Addr, (∀ p ∈ news, p.1 < I) → ItemsRest prog w A E h₀ env (.Tuple elts k pos) body Q s [(I + 1, "enumerate"), (I, "tuple_iterator")] [(l, tupO vs)] (enumItems 0 vs) m news) :
    wpAny (model prog w) A (call (.type "enumerate") [.ref l]) (fun xv s₁ => wpAny (model prog w) A (pyIter xv) (fun it s₂ => TurnsAt prog w A h₀ env (.Tuple elts k pos) body Q E it s₂) E s₁) E s := by
  have z := N _ hm
  have hT : s.heap.IsTuple l vs.toArray := ⟨_, z.1, rfl, _, rfl⟩
  have hlt : l < s.heap.objs.size := Heap.lt_size z.1
  have hL : env.locals < s.heap.objs.size := F.ns.lt
  refine callEnum hT fun h' hE hI _ hk => iterEnum hE ?_
  have W := (enumWalk (prog := prog) (w := w) hh (s.heap.objs.size + 1) s.heap.objs.size l (Nat.succ_ne_self _) (Nat.ne_of_lt (Nat.lt_succ_of_lt hlt)) (Nat.ne_of_lt hlt) vs.toArray).toU
  refine ktu_core (tk0 := s.toks) (keep := [(l, tupO vs)]) (KTurns.ofWalksU W) (by simp [enumItems_length]) (fun i v h hv => ?_) (fun i h st => ?_) (fun b hb => ?_) (fun b hb => by simpa using hb) (fun b hb => ?_) (fun hb => ?_) (fun p hp hb => ?_) ⟨⟨_, hE⟩, hI, hT.at fun o e => hk _ o e⟩ (F.keeps hk) (N.grown hk) ⟨hm, trivial⟩ (rest₀ _ fun p hp => Heap.lt_size (N p hp).1)
  · obtain ⟨T, vals, rfl, ⟨t, x, hx, rfl⟩, hT'⟩ := hv
    refine ⟨_, enumItems_get vs 0 i (v := x) (by simpa using hx), T, t, rfl, ?_⟩
    rw [Nat.zero_add]; exact hT'
  · obtain ⟨⟨old, he⟩, ⟨oi, hoi, hic, _⟩, _⟩ := st
    exact ⟨[(_, _), (_, oi)], ⟨⟨rfl, rfl⟩, ⟨rfl, hic⟩, trivial⟩, List.forall_mem_cons.mpr ⟨he, List.forall_mem_cons.mpr ⟨hoi, List.forall_mem_nil _⟩⟩⟩
  · have hb' : b = s.heap.objs.size + 1 ∨ b = s.heap.objs.size := by simpa using hb
    rcases hb' with rfl | rfl
    · exact ⟨by simp, ktu_new F (Nat.le_succ _)⟩
    · exact ⟨by simp, ktu_new F (Nat.le_refl _)⟩
  · have hb' : b = s.heap.objs.size + 1 ∨ b = s.heap.objs.size ∨ b = l := by simpa using hb
    rcases hb' with rfl | rfl | rfl
    · exact .inl (by simp)
    · exact .inl (by simp)
    · exact .inr ⟨_, List.mem_singleton.mpr rfl⟩
  · have hb' : env.locals = s.heap.objs.size + 1 ∨ env.locals = s.heap.objs.size ∨ env.locals = l := by simpa using hb
    rcases hb' with e | e | e
    · exact absurd e (Nat.ne_of_lt (Nat.lt_succ_of_lt hL))
    · exact absurd e (Nat.ne_of_lt hL)
    · exact z.2.1 e.symm
  · have hlp := Heap.lt_size (N p hp).1
    have hb' : p.1 = s.heap.objs.size + 1 ∨ p.1 = s.heap.objs.size := by simpa using hb
    rcases hb' with e | e
    · exact absurd e (Nat.ne_of_lt (Nat.lt_succ_of_lt hlp))
    · exact absurd e (Nat.ne_of_lt hlp)
end
end Mine

end

section
open PySem PySem.W PyProof.Rows PySem.Calls PyProof.Rows.LCg
set_option Elab.async false
set_option maxRecDepth 100000
namespace Mine
theorem lenS {α : Type} {l : List α} {n : Nat} (h : l.length = n + 1) : ∃ a t, l = a :: t ∧ t.length = n := by
  cases l with
  | nil => cases h
  | cons a t => exact ⟨a, t, rfl, Nat.succ.inj h⟩
theorem len4 {α : Type} {l : List α} {n : Nat} (h : l.length = n + 4) : ∃ a b c d t, l = a :: b :: c :: d :: t ∧ t.length = n := by
  obtain ⟨a, z1, e1, h1⟩ := lenS h
  obtain ⟨b, z2, e2, h2⟩ := lenS h1
  obtain ⟨c, z3, e3, h3⟩ := lenS h2
  obtain ⟨d, z4, e4, h4⟩ := lenS h3
  exact ⟨a, b, c, d, z4, by rw [e1, e2, e3, e4], h4⟩
theorem len12 {α : Type} {l : List α} (h : l.length = 12) : ∃ a0 a1 a2 a3 a4 a5 a6 a7 a8 a9 a10 a11, l = [a0, a1, a2, a3, a4, a5, a6, a7, a8, a9, a10, a11] := by
  obtain ⟨a0, a1, a2, a3, z1, e1, h1⟩ := len4 (n := 8) h
  obtain ⟨a4, a5, a6, a7, z2, e2, h2⟩ := len4 (n := 4) h1
  obtain ⟨a8, a9, a10, a11, z3, e3, h3⟩ := len4 (n := 0) h2
  exact ⟨a0, a1, a2, a3, a4, a5, a6, a7, a8, a9, a10, a11, by rw [e1, e2, e3, List.eq_nil_of_length_eq_zero h3]⟩
theorem listEnum12 {prog : Program} {w : World} {A : Around} {E : Value → Shared → Prop} {s : Shared} {h₀ : Heap} {L : Addr} {m : Str → Option Value} {news : List (Addr × Obj)} {I l : Addr} {oI : Obj} {v0 v1 v2 v3 v4 v5 v6 v7 v8 v9 v10 v11 : Value} {Q : Value → Shared → Prop} (hh : A.handled = none) (F : Fr h₀ L s.heap m) (N : News h₀ L s.heap ((I + 1, enumO I) :: (I, oI) :: news)) (hI : TupIt oI l)
    (hm : (l, tupO [v0, v1, v2, v3, v4, v5, v6, v7, v8, v9, v10, v11]) ∈ news) (hlt : ∀ p ∈ news, p.1 < I)
    (h : ∀ (S T0 T1 T2 T3 T4 T5 T6 T7 T8 T9 T10 T11 : Addr) (t0 t1 t2 t3 t4 t5 t6 t7 t8 t9 t10 t11 : Tok) (c : Nat) (h' : Heap) (tk : Nat), Fr h₀ L h' m → (∀ p ∈ news, p.1 < S) →
      News h₀ L h' ((S, listOf #[.ref T0, .ref T1, .ref T2, .ref T3, .ref T4, .ref T5, .ref T6, .ref T7, .ref T8, .ref T9, .ref T10, .ref T11] c) :: (T0, pairO 0 t0 v0) :: (T1, pairO 1 t1 v1) :: (T2, pairO 2 t2 v2) :: (T3, pairO 3 t3 v3) :: (T4, pairO 4 t4 v4) :: (T5, pairO 5 t5 v5) :: (T6, pairO 6 t6 v6) :: (T7, pairO 7 t7 v7) :: (T8, pairO 8 t8 v8) :: (T9, pairO 9 t9 v9) :: (T10, pairO 10 t10 v10) :: (T11, pairO 11 t11 v11) :: news) → Q (.ref S) { s with heap := h', toks := tk }) :
    wpAny (model prog w) A (call (.type "list") [.ref (I + 1)]) Q E s := by
  refine listEnumK hh F N hI hm hlt (by rw [sizeLine_eq]; exact Nat.le_of_ble_eq_true rfl) fun S Ts c h' tk hlen F' hS N' hP => ?_
  obtain ⟨T0, T1, T2, T3, T4, T5, T6, T7, T8, T9, T10, T11, rfl⟩ := len12 hlen

  obtain ⟨t0, x0, e0, q0⟩ := hP 0 T0 rfl
  obtain rfl := Option.some.inj e0
  obtain ⟨t1, x1, e1, q1⟩ := hP 1 T1 rfl
  obtain rfl := Option.some.inj e1
  obtain ⟨t2, x2, e2, q2⟩ := hP 2 T2 rfl
  obtain rfl := Option.some.inj e2
  obtain ⟨t3, x3, e3, q3⟩ := hP 3 T3 rfl
  obtain rfl := Option.some.inj e3
  obtain ⟨t4, x4, e4, q4⟩ := hP 4 T4 rfl
  obtain rfl := Option.some.inj e4
  obtain ⟨t5, x5, e5, q5⟩ := hP 5 T5 rfl
  obtain rfl := Option.some.inj e5
  obtain ⟨t6, x6, e6, q6⟩ := hP 6 T6 rfl
  obtain rfl := Option.some.inj e6
  obtain ⟨t7, x7, e7, q7⟩ := hP 7 T7 rfl
  obtain rfl := Option.some.inj e7
  obtain ⟨t8, x8, e8, q8⟩ := hP 8 T8 rfl
  obtain rfl := Option.some.inj e8
  obtain ⟨t9, x9, e9, q9⟩ := hP 9 T9 rfl
  obtain rfl := Option.some.inj e9
  obtain ⟨t10, x10, e10, q10⟩ := hP 10 T10 rfl
  obtain rfl := Option.some.inj e10
  obtain ⟨t11, x11, e11, q11⟩ := hP 11 T11 rfl
  obtain rfl := Option.some.inj e11
  refine h S T0 T1 T2 T3 T4 T5 T6 T7 T8 T9 T10 T11 t0 t1 t2 t3 t4 t5 t6 t7 t8 t9 t10 t11 c h' tk F' hS fun p hp => ?_
  rcases List.mem_cons.mp hp with rfl | hp
  · exact N' _ List.mem_cons_self
  rcases List.mem_cons.mp hp with rfl | hp
  · exact ⟨q0.1, q0.2.1, q0.2.2.1⟩
  rcases List.mem_cons.mp hp with rfl | hp
  · exact ⟨q1.1, q1.2.1, q1.2.2.1⟩
  rcases List.mem_cons.mp hp with rfl | hp
  · exact ⟨q2.1, q2.2.1, q2.2.2.1⟩
  rcases List.mem_cons.mp hp with rfl | hp
  · exact ⟨q3.1, q3.2.1, q3.2.2.1⟩
  rcases List.mem_cons.mp hp with rfl | hp
  · exact ⟨q4.1, q4.2.1, q4.2.2.1⟩
  rcases List.mem_cons.mp hp with rfl | hp
  · exact ⟨q5.1, q5.2.1, q5.2.2.1⟩
  rcases List.mem_cons.mp hp with rfl | hp
  · exact ⟨q6.1, q6.2.1, q6.2.2.1⟩
  rcases List.mem_cons.mp hp with rfl | hp
  · exact ⟨q7.1, q7.2.1, q7.2.2.1⟩
  rcases List.mem_cons.mp hp with rfl | hp
  · exact ⟨q8.1, q8.2.1, q8.2.2.1⟩
  rcases List.mem_cons.mp hp with rfl | hp
  · exact ⟨q9.1, q9.2.1, q9.2.2.1⟩
  rcases List.mem_cons.mp hp with rfl | hp
  · exact ⟨q10.1, q10.2.1, q10.2.2.1⟩
  rcases List.mem_cons.mp hp with rfl | hp
  · exact ⟨q11.1, q11.2.1, q11.2.2.1⟩
  exact N' _ (List.mem_cons_of_mem _ hp)
end Mine

end

section
open PySem PySem.W PyProof.Rows PySem.Calls PyProof.Rows.LCg
set_option Elab.async false
set_option maxRecDepth 100000
namespace Mine
section
variable {prog : Program} {w : World} {A : Around} {E : Value → Shared → Prop} {s : Shared} {env : Env} {h₀ : Heap} {L : Addr} {m : Str → Option Value} {news : List (Addr × Obj)}
theorem krsInv {x : Str} {body : List Stmt} {Q : Flow → Shared → Prop} {I : Addr} {a c : Int} {n : Nat} (J : Nat → (Str → Option Value) → List (Addr × Obj) → Prop)
    (step : ∀ i m₁ news₁ t h tk, i < n → J i m₁ news₁ → Fr h₀ env.locals h (fun y => if y = x then some (.int (a + (i : Int) * c) t) else m₁ y) → News h₀ env.locals h ((I, krsIt (a + ((i + 1 : Nat) : Int) * c) ((n : Int) - ((i + 1 : Nat) : Int)) c) :: news₁) →
      wpAny (model prog w) A (execs body env) (UnrPost h₀ env.locals { s with heap := h, toks := tk } I (krsIt (a + ((i + 1 : Nat) : Int) * c) ((n : Int) - ((i + 1 : Nat) : Int)) c) (J (i + 1)) Q) E { s with heap := h, toks := tk })
    (done : ∀ m₁ news₁ h tk, J n m₁ news₁ → Fr h₀ env.locals h m₁ → News h₀ env.locals h news₁ → Q .next { s with heap := h, toks := tk })
    (h0 : J 0 m news) : KrsRest prog w A E h₀ env x body Q s I a c n n 0 m news := by
  have key : ∀ (k i : Nat) (m₁ : Str → Option Value) (news₁ : List (Addr × Obj)), k + i = n → J i m₁ news₁ → KrsRest prog w A E h₀ env x body Q s I a c n k i m₁ news₁ := by
    intro k
    induction k with
    | zero =>
      intro i m₁ news₁ e hj
      obtain rfl : i = n := by omega
      exact fun h tk F' N' => done m₁ news₁ h tk hj F' N'
    | succ k ih =>
      intro i m₁ news₁ e hj t h tk F' N'
      refine wpAny_mono (step i m₁ news₁ t h tk (by omega) hj F' N') (fun f s₃ p => ?_) fun _ _ e => e
      have fin : UnrEnd h₀ env.locals { s with heap := h, toks := tk } I (krsIt (a + ((i + 1 : Nat) : Int) * c) ((n : Int) - ((i + 1 : Nat) : Int)) c) (J (i + 1)) s₃ →
          UnrEnd h₀ env.locals { s with heap := h, toks := tk } I (krsIt (a + ((i + 1 : Nat) : Int) * c) ((n : Int) - ((i + 1 : Nat) : Int)) c) (KrsRest prog w A E h₀ env x body Q s I a c n k (i + 1)) s₃ := by
        rintro ⟨h', tk', m', n', e', F2, N2, o2, j2⟩
        exact ⟨h', tk', m', n', e', F2, N2, o2, ih (i + 1) m' n' (by omega) j2⟩
      cases f with
      | ret v => exact p
      | brk => exact p
      | next => exact fin p
      | cont => exact fin p
  exact key n 0 m news (by omega) h0

theorem endW {its : List (Addr × Obj)} {rest : (Str → Option Value) → List (Addr × Obj) → Prop} {s₁ : Shared} {h' : Heap} {tk : Nat} {m' : Str → Option Value} {all : List (Addr × Obj)} (F : Fr h₀ L h' m') (N : News h₀ L h' all) (news' : List (Addr × Obj))
    (hI : ∀ p ∈ its, p ∈ all) (sub : ∀ p ∈ news', p ∈ all) (off : ∀ p ∈ news', ∀ q ∈ its, p.1 ≠ q.1) (r : rest m' news') : UnrEndW h₀ L s₁ its rest { s₁ with heap := h', toks := tk } :=
  ⟨h', tk, m', news', rfl, F, fun p hp => (List.mem_append.mp hp).elim (fun h => N p (hI p h)) fun h => N p (sub p h), off, r⟩

theorem storeD {D : Addr} {bv : List Value} {bs : List Int} {n : Nat} {k x : Int} {t u : Tok} {R : List (Addr × Obj)} {Q : Unit → Shared → Prop} (F : Fr h₀ L s.heap m) (N : News h₀ L s.heap news) (P : Pick (D, listOf bv.toArray n) news R) (hoff : ∀ p ∈ R, p.1 ≠ D)
    (hi : IntsAre bv bs) (h0 : 0 ≤ k) (h1 : k < bs.length) (hfit : k < 2 ^ 63)
    (h : ∀ h' bv', Fr h₀ L h' m → News h₀ L h' ((D, listOf bv'.toArray n) :: R) → IntsAre bv' (bs.set k.toNat x) → Q () { s with heap := h' }) : wpAny (model prog w) A (setItem (.ref D) (.int k t) (.int x u)) Q E s :=
  ksa_set F (newsSub N (List.forall_mem_cons.mpr ⟨P.mem.1, P.mem.2⟩)) (Upd.head hoff) hi h0 h1 hfit fun h' F' N' hi' _ _ => h h' _ F' N' hi'
theorem endD {D : Addr} {o : Obj} {R its : List (Addr × Obj)} {rest : (Str → Option Value) → List (Addr × Obj) → Prop} {s₁ : Shared} {h' : Heap} {tk : Nat} {m' : Str → Option Value} (F : Fr h₀ L h' m') (N : News h₀ L h' ((D, o) :: (its ++ R)))
    (hD : ∀ q ∈ its, D ≠ q.1) (off : ∀ p ∈ R, ∀ q ∈ its, p.1 ≠ q.1) (r : rest m' ((D, o) :: R)) : UnrEndW h₀ L s₁ its rest { s₁ with heap := h', toks := tk } :=
  endW F N _ (fun p hp => List.mem_cons_of_mem _ (List.mem_append_left _ hp)) (fun p hp => (List.mem_cons.mp hp).elim (fun e => e ▸ List.mem_cons_self) fun h => List.mem_cons_of_mem _ (List.mem_append_right _ h))
    (fun p hp => (List.mem_cons.mp hp).elim (fun e => e ▸ hD) fun h => off p h) r
theorem endR {D I : Addr} {o it : Obj} {R : List (Addr × Obj)} {rest : (Str → Option Value) → List (Addr × Obj) → Prop} {s₁ : Shared} {h' : Heap} {tk : Nat} {m' : Str → Option Value} (F : Fr h₀ L h' m') (N : News h₀ L h' ((D, o) :: (I, it) :: R))
    (hD : D ≠ I) (off : ∀ p ∈ R, p.1 ≠ I) (r : rest m' ((D, o) :: R)) : UnrEnd h₀ L s₁ I it rest { s₁ with heap := h', toks := tk } :=
  UnrEnd.intro F N _ (fun p hp => by
    rcases List.mem_cons.mp hp with rfl | hp
    · exact List.mem_cons_of_mem _ List.mem_cons_self
    · rcases List.mem_cons.mp hp with rfl | hp
      · exact List.mem_cons_self
      · exact List.mem_cons_of_mem _ (List.mem_cons_of_mem _ hp)) (fun p hp => (List.mem_cons.mp hp).elim (fun e => e ▸ hD) fun h => off p h) r
theorem popD {D : Addr} {bv : List Value} {bs : List Int} {n : Nat} {R : List (Addr × Obj)} {Q : Value → Shared → Prop} (F : Fr h₀ L s.heap m) (N : News h₀ L s.heap news) (P : Pick (D, listOf bv.toArray n) news R) (hoff : ∀ p ∈ R, p.1 ≠ D)
    (hi : IntsAre bv bs) (h0 : 0 < bs.length) (h1 : bs.length ≤ 100)
    (h : ∀ h' bv' t, Fr h₀ L h' m → News h₀ L h' ((D, listOf bv'.toArray (n + 1)) :: R) → IntsAre bv' bs.dropLast → Q (.int (bs.getLastD 0) t) { s with heap := h' }) : wpAny (model prog w) A (call (.builtin "list.pop") [.ref D]) Q E s := by
  have hl : bv.length = bs.length := hi.length
  exact kpa_pop F (newsSub N (List.forall_mem_cons.mpr ⟨P.mem.1, P.mem.2⟩)) (Upd.head hoff) hi (by omega) (by rw [sizeLine_eq]; omega) fun h' t F' N' hi' => h h' _ t F' N' hi'
end
theorem map2 {M : Str → Option Value} {a b : Str} {v1 v2 u1 u2 : Option Value} : (fun z => if z = a then u1 else if z = b then u2 else (if z = a then v1 else if z = b then v2 else M z)) = fun z => if z = a then u1 else if z = b then u2 else M z := by
  funext z
  by_cases h1 : z = a
  · simp [h1]
  · by_cases h2 : z = b
    · simp [h2]
    · simp [h1, h2]
theorem map2self {M : Str → Option Value} {a b : Str} : (fun z => if z = a then M a else if z = b then M b else M z) = M := by
  funext z
  by_cases h1 : z = a
  · simp only [if_pos h1]; rw [h1]
  · by_cases h2 : z = b
    · simp only [if_neg h1, if_pos h2]; rw [h2]
    · simp only [if_neg h1, if_neg h2]
theorem map4self {M : Str → Option Value} {a b c d : Str} : (fun z => if z = a then M a else if z = b then M b else if z = c then M c else if z = d then M d else M z) = M := by
  funext z
  by_cases h1 : z = a
  · simp only [if_pos h1]; rw [h1]
  · by_cases h2 : z = b
    · simp only [if_neg h1, if_pos h2]; rw [h2]
    · by_cases h3 : z = c
      · simp only [if_neg h1, if_neg h2, if_pos h3]; rw [h3]
      · by_cases h4 : z = d
        · simp only [if_neg h1, if_neg h2, if_neg h3, if_pos h4]; rw [h4]
        · simp only [if_neg h1, if_neg h2, if_neg h3, if_neg h4]
theorem map4 {M : Str → Option Value} {a b c d : Str} {u1 u2 u3 u4 v1 v2 v3 v4 : Option Value} :
    (fun z => if z = a then u1 else if z = b then u2 else (if z = c then u3 else if z = d then u4 else (if z = a then v1 else if z = b then v2 else if z = c then v3 else if z = d then v4 else M z))) = fun z => if z = a then u1 else if z = b then u2 else if z = c then u3 else if z = d then u4 else M z := by
  funext z
  by_cases h1 : z = a
  · simp [h1]
  · by_cases h2 : z = b
    · simp [h2]
    · by_cases h3 : z = c
      · simp [h3]
      · by_cases h4 : z = d
        · simp [h4]
        · simp [h1, h2, h3, h4]
end Mine

end

section
open PySem PySem.W PyProof.Rows PySem.Calls PyProof.Rows.LCg
set_option Elab.async false
set_option maxRecDepth 100000
namespace Mine
section
variable {prog : Program} {w : World} {A : Around} {E : Value → Shared → Prop} {s : Shared} {env : Env} {h₀ : Heap} {L : Addr} {m : Str → Option Value} {news : List (Addr × Obj)}
theorem itemsInvM {M : Str → Option Value} {hp : Heap} {target : Expr} {body : List Stmt} {Q : Flow → Shared → Prop} {ws : List (Addr × String)} {keep : List (Addr × Obj)} {xs : List Itm} (uF : Fr h₀ L hp M) (J : (Str → Option Value) → Nat → (Str → Option Value) → List (Addr × Obj) → Prop)
    (step : ∀ i a m₁ news₁, xs[i]? = some a → J M i m₁ news₁ → SubL keep news₁ → ∀ v h tk, a.Is v h → Fr h₀ env.locals h m₁ → AllObj ws (fun its => News h₀ env.locals h (its ++ news₁) →
      wpAny (model prog w) A (assign target env v) (fun _ s₂ => wpAny (model prog w) A (execs body env) (UnrPostW h₀ env.locals { s with heap := h, toks := tk } its (fun m' n' => SubL keep n' ∧ J M (i + 1) m' n') Q) E s₂) E { s with heap := h, toks := tk }))
    (done : ∀ m₁ news₁ h tk, J M xs.length m₁ news₁ → Fr h₀ env.locals h m₁ → News h₀ env.locals h news₁ → Q .next { s with heap := h, toks := tk })
    (h0 : J M 0 m news) (hk : SubL keep news) : ItemsRest prog w A E h₀ env target body Q s ws keep xs m news := itemsInv (J M) step done h0 hk
theorem krsInvM {M : Str → Option Value} {hp : Heap} {x : Str} {body : List Stmt} {Q : Flow → Shared → Prop} {I : Addr} {a c : Int} {n : Nat} (uF : Fr h₀ L hp M) (J : (Str → Option Value) → Nat → (Str → Option Value) → List (Addr × Obj) → Prop)
    (step : ∀ i m₁ news₁ t h tk, i < n → J M i m₁ news₁ → Fr h₀ env.locals h (fun y => if y = x then some (.int (a + (i : Int) * c) t) else m₁ y) → News h₀ env.locals h ((I, krsIt (a + ((i + 1 : Nat) : Int) * c) ((n : Int) - ((i + 1 : Nat) : Int)) c) :: news₁) →
      wpAny (model prog w) A (execs body env) (UnrPost h₀ env.locals { s with heap := h, toks := tk } I (krsIt (a + ((i + 1 : Nat) : Int) * c) ((n : Int) - ((i + 1 : Nat) : Int)) c) (J M (i + 1)) Q) E { s with heap := h, toks := tk })
    (done : ∀ m₁ news₁ h tk, J M n m₁ news₁ → Fr h₀ env.locals h m₁ → News h₀ env.locals h news₁ → Q .next { s with heap := h, toks := tk })
    (h0 : J M 0 m news) : KrsRest prog w A E h₀ env x body Q s I a c n n 0 m news := krsInv (J M) step done h0
end
structure Keep (p : Prop) : Prop where out : p
theorem clsNe {h₀ h : Heap} {L : Addr} {news : List (Addr × Obj)} {a b : Addr} {o o' : Obj} (N : News h₀ L h news) (ha : (a, o) ∈ news) (hb : (b, o') ∈ news) (hc : o.cls ≠ o'.cls) : a ≠ b := fun e => by
  have h1 := (N _ ha).1
  have h2 := (N _ hb).1
  rw [e] at h1
  exact hc (congrArg Obj.cls (Option.some.inj (h1.symm.trans h2)))
theorem tupList : Value.type "tuple" ≠ Value.type "list" := fun h => by injection h with h; exact absurd h (by decide)
theorem intsGet : ∀ {vs : List Value} {ns : List Int} {i : Nat} {v : Value}, IntsAre vs ns → vs[i]? = some v → i < ns.length ∧ ∃ t, v = .int (ns.getD i 0) t
  | _, _, i, v, .nil, h => by simp at h
  | _, _, 0, v, .cons n t _, h => by
    have e : Value.int n t = v := by simpa using h
    exact ⟨Nat.succ_pos _, t, by rw [← e]; rfl⟩
  | _, _, i + 1, v, .cons n t r, h => by
    obtain ⟨h1, t', h2⟩ := intsGet (i := i) r (by simpa using h)
    exact ⟨Nat.succ_lt_succ h1, t', h2⟩
theorem enumIs {vs : List Value} {ns : List Int} {i : Nat} {a : Itm} {v : Value} {h : Heap} (hi : IntsAre vs ns) (ha : (enumItems 0 vs)[i]? = some a) (hv : a.Is v h) : i < ns.length ∧ ∃ T t tx, v = .ref T ∧ IsTup h T #[.int (i : Nat) t, .int (ns.getD i 0) tx] := by
  have hl : i < vs.length := by
    obtain ⟨h1, _⟩ := List.getElem?_eq_some_iff.mp ha
    rwa [enumItems_length] at h1
  have hx : vs[i]? = some vs[i] := List.getElem?_eq_getElem hl
  obtain ⟨h1, tx, h2⟩ := intsGet hi hx
  have e := enumItems_get vs 0 i hx
  rw [ha] at e
  have e' := Option.some.inj e
  subst e'
  obtain ⟨T, t, e1, e2⟩ := hv
  rw [Nat.zero_add, h2] at e2
  exact ⟨h1, T, t, tx, e1, e2⟩
theorem valIs {vs : List Value} {i : Nat} {a : Itm} {v : Value} {h : Heap} (ha : (vs.map Itm.val)[i]? = some a) (hv : a.Is v h) : vs[i]? = some v := by
  rw [List.getElem?_map] at ha
  cases e : vs[i]? with
  | none => rw [e] at ha; cases ha
  | some u =>
    rw [e] at ha
    obtain rfl := Option.some.inj ha
    have : v = u := hv
    rw [this]
theorem getD01 {ys : List Int} (h : ∀ y ∈ ys, 0 ≤ y ∧ y ≤ 1) (j : Nat) : 0 ≤ ys.getD j 0 ∧ ys.getD j 0 ≤ 1 := by
  rw [List.getD_eq_getElem?_getD]
  cases e : ys[j]? with
  | none => decide
  | some y => exact h y (List.mem_of_getElem? e)
theorem offAdd {h₀ h : Heap} {L I D : Addr} {o o' : Obj} {R : List (Addr × Obj)} (uN : News h₀ L h ((I, o) :: (D, o') :: R)) (hd : @LT.lt Nat _ D I) (hoff : ∀ p ∈ R, p.1 ≠ D) : ∀ p ∈ (I, o) :: R, p.1 ≠ D :=
  List.forall_mem_cons.mpr ⟨Nat.ne_of_gt hd, hoff⟩
end Mine

end

section
open PySem PySem.W PyProof.Rows PySem.Calls PyProof.Rows.LCg
set_option Elab.async false
namespace Mine
def IntE (prog : Program) (w : World) (A : Around) (h₀ : Heap) (L : Addr) (m : Str → Option Value) (env : Env) (news : List (Addr × Obj)) (e : PySem.Expr) (v : Int) : Prop :=
  ∀ (s : Shared) (extra : List (Addr × Obj)) (Q E : Value → Shared → Prop), Fr h₀ L s.heap m → News h₀ L s.heap (extra ++ news) →
    (∀ (t : Tok) (tk : Tok), Q (.int v t) { s with toks := tk }) → wpAny (model prog w) A (eval e env) Q E s
def RowE (prog : Program) (w : World) (A : Around) (h₀ : Heap) (L : Addr) (m : Str → Option Value) (env : Env) (news : List (Addr × Obj)) (e : PySem.Expr) (is : List Int) : Prop :=
  ∀ (s : Shared) (extra : List (Addr × Obj)) (Q E : Value → Shared → Prop), Fr h₀ L s.heap m → News h₀ L s.heap (extra ++ news) →
    (∀ (h' : Heap) (D : Addr) (vs : List Value) (tk : Tok), Fr h₀ L h' m → News h₀ L h' ((D, listOf vs.toArray 0) :: (extra ++ news)) → (∀ q ∈ extra ++ news, q.1 < D) → IntsAre vs is → Q (.ref D) { s with heap := h', toks := tk }) →
    wpAny (model prog w) A (eval e env) Q E s
section
variable {prog : Program} {w : World} {A : Around} {h₀ : Heap} {L : Addr} {m : Str → Option Value} {env : Env} {news : List (Addr × Obj)}
theorem intE_const {i : Int} {k pos} : IntE prog w A h₀ L m env news (.Constant (.int i) k pos) i := fun _ _ _ _ _ _ h => wpAny_Constant_int (h _ _)
theorem row_list1 {e : PySem.Expr} {v : Int} {pos} (he : starEach [e] env = (false, eval e env) :: starEach [] env) (r : IntE prog w A h₀ L m env news e v) : RowE prog w A h₀ L m env news (.List [e] pos) [v] := by
  intro s extra Q E F N h
  refine List_ (args_cons (r s extra _ _ F N fun t tk => args_nil ?_) he)
  exact newList_K F N fun l h' F' N' l1 => h h' l [.int v t] tk F' N' l1 (IntsAre.cons v t IntsAre.nil)
theorem row_list2 {e f : PySem.Expr} {u v : Int} {pos} (he : starEach [e, f] env = (false, eval e env) :: starEach [f] env) (hf : starEach [f] env = (false, eval f env) :: starEach [] env)
    (r : IntE prog w A h₀ L m env news e u) (r2 : IntE prog w A h₀ L m env news f v) : RowE prog w A h₀ L m env news (.List [e, f] pos) [u, v] := by
  intro s extra Q E F N h
  refine List_ (args_cons (r s extra _ _ F N fun t tk => args_cons (r2 _ extra _ _ F N fun t2 tk2 => args_nil ?_) hf) he)
  exact newList_K F N fun l h' F' N' l1 => h h' l [.int u t, .int v t2] tk2 F' N' l1 (IntsAre.cons u t (IntsAre.cons v t2 IntsAre.nil))
theorem row_mul {e f : PySem.Expr} {is : List Int} {x : Int} {pos} (r : RowE prog w A h₀ L m env news e is) (r2 : IntE prog w A h₀ L m env news f x) (hlo : -(2 ^ 63 : Int) ≤ x) (hhi : x < 2 ^ 63) (hz : is.length * x.toNat ≤ 2 ^ 24) :
    RowE prog w A h₀ L m env news (.BinOp e .Mult f pos) (List.replicate x.toNat is).flatten := by
  intro s extra Q E F N h
  refine wpAny_BinOp (r s extra _ _ F N fun h1 D1 vs1 tk1 F1 N1 l1 i1 => ?_)
  refine r2 _ ((D1, _) :: extra) _ _ F1 N1 fun t tk => ?_
  refine KM.mul F1 N1 (News.isList N1 List.mem_cons_self) i1 hlo hhi (by rw [i1.length]; exact hz) fun D h2 F2 N2 l2 i2 n _ _ _ _ => ?_
  refine h h2 D _ tk F2 (newsSub N2 fun q hq => ?_) (fun q hq => l2 q (List.mem_cons_of_mem _ hq)) i2
  rcases List.mem_cons.mp hq with rfl | hq
  · exact List.mem_cons_self
  · exact List.mem_cons_of_mem _ (List.mem_cons_of_mem _ hq)
theorem row_add {e f : PySem.Expr} {is js : List Int} {pos} (r : RowE prog w A h₀ L m env news e is) (r2 : RowE prog w A h₀ L m env news f js) (hz : is.length + js.length ≤ 1000) :
    RowE prog w A h₀ L m env news (.BinOp e .Add f pos) (is ++ js) := by
  intro s extra Q E F N h
  refine wpAny_BinOp (r s extra _ _ F N fun h1 D1 vs1 tk1 F1 N1 l1 i1 => ?_)
  refine r2 _ ((D1, _) :: extra) _ _ F1 N1 fun h2 D2 vs2 tk2 F2 N2 l2 i2 => ?_
  refine kmk_add_lit F2 N2 (News.isList N2 (List.mem_cons_of_mem _ List.mem_cons_self)) (News.isList N2 List.mem_cons_self) (zs := vs1 ++ vs2) rfl (fun D h3 F3 N3 l3 => ?_) ?_
  · refine h h3 D _ tk2 F3 (newsSub N3 fun q hq => ?_) (fun q hq => l3 q (List.mem_cons_of_mem _ (List.mem_cons_of_mem _ hq))) (i1.append i2)
    rcases List.mem_cons.mp hq with rfl | hq
    · exact List.mem_cons_self
    · exact List.mem_cons_of_mem _ (List.mem_cons_of_mem _ (List.mem_cons_of_mem _ hq))
  · show vs1.length + vs2.length ≤ sizeLine
    rw [i1.length, i2.length]
    exact Nat.le_trans hz (by decide)
theorem rowUse {e : PySem.Expr} {is : List Int} {s : Shared} {Q E : Value → Shared → Prop} (F : Fr h₀ L s.heap m) (N : News h₀ L s.heap news) (r : RowE prog w A h₀ L m env news e is)
    (h : ∀ (h' : Heap) (D : Addr) (vs : List Value) (tk : Tok), Fr h₀ L h' m → News h₀ L h' ((D, listOf vs.toArray 0) :: news) → (∀ q ∈ news, q.1 < D) → IntsAre vs is → Q (.ref D) { s with heap := h', toks := tk }) :
    wpAny (model prog w) A (eval e env) Q E s := r s [] Q E F N h
end
end Mine

end

open PySem PySem.W PyProof.Rows PySem.Calls PyProof.Rows.LCg
local macro_rules | `(tactic| k_room) => `(tactic| ((try simp only [depth_under_make, depth_under_kw, depth_in1, depth_deeper, depth_caller]); (try dsimp only [ktrTop]); omega))
local macro_rules | `(tactic| tlg_ne) => `(tactic| k_dflt ((repeat' (first | exact True.intro | assumption | refine And.intro ?_ ?_)) <;> first | exact Or.inl Mine.typeNe | exact Or.inl Mine.refNe | exact Or.inr (by assumption) | exact Or.inr (Nat.ne_of_gt (by assumption)) | exact Or.inr (neN (by omega))))
local macro_rules | `(tactic| k_all) => `(tactic| exact Mine.ne_allLt (by assumption))
local macro_rules | `(tactic| walk_at "exec Assign cons ListComp") => `(tactic| (k_here; (fail_if_success (with_reducible show wpAny _ _ (exec (Stmt.Assign _ (Expr.ListComp _ [⟨_, Expr.Call (Expr.Name (Str.ofString "range") _) _ _ _, _, _⟩] _ _) _) _) _ _ _)); k_dflt (refine' Mine.compUA ?F ?L ?hh ?sw ?clos ?cell ?kind ?names ?x ?y ?p ?_; (case F => k_asm); (case L => exact rfl); (case hh => exact rfl); (case sw => with_unfolding_all rfl); (case clos => exact rfl); (case cell => decide); (case kind => exact rfl); (case names => decide); (case x => exact rfl); (case y => exact rfl); (case p => exact rfl); k_whole)))
local macro_rules | `(tactic| walk_at "eval ListComp") => `(tactic| (k_here; (fail_if_success (with_reducible show wpAny _ _ (eval (Expr.ListComp _ [⟨_, Expr.Call (Expr.Name (Str.ofString "range") _) _ _ _, _, _⟩] _ _) _) _ _ _)); k_dflt (refine' Mine.compU ?F ?hh ?clos ?cell ?kind ?names ?x ?_; (case F => k_asm); (case hh => exact rfl); (case clos => exact rfl); (case cell => decide); (case kind => exact rfl); (case names => decide); (case x => exact rfl); k_whole)))
local macro_rules | `(tactic| walk_at "USrc") => `(tactic| (k_here; k_dflt (refine' Mine.USrc.intro ?F ?N ?hm ?hq ?hsz ?_; (case F => k_asm); (case N => k_asm); (case hm => k_mem); (case hq => exact ⟨by first | exact Or.inl rfl | exact Or.inr rfl, _, rfl⟩); (case hsz => exact Nat.le_of_ble_eq_true rfl)); intro g'))
local macro_rules | `(tactic| walk_at "URest") => `(tactic| (k_here; k_dflt (first | (refine Mine.URest.cons ?_; intro I' oI' C' oC' D' m' h' tk' E' hC' hx' F' N' off' ne'; (try ((have rr' := Mine.off65 off' (by k_mem)); (have r1' := rr'.1); (have r2' := rr'.2.1); (have r3' := rr'.2.2); clear rr'))) | refine Mine.URest.nil ?_)))
local macro_rules | `(tactic| walk_at "UEnd") => `(tactic| (k_here; k_dflt (refine' Mine.UEnd.intro ?F ?N ?p1 ?p2 ?p3 ?off ?hs ?_; (case F => k_asm); (case N => k_asm); (case p1 => repeat (first | exact Mine.Pick.head | apply Mine.Pick.tail)); (case p2 => repeat (first | exact Mine.Pick.head | apply Mine.Pick.tail)); (case p3 => repeat (first | exact Mine.Pick.head | apply Mine.Pick.tail)); (case off => lcg_off); (case hs => k_mem)); (try dsimp only)))
local macro_rules | `(tactic| walk_at "FinU") => `(tactic| (k_here; (unfold Mine.FinU); intro D' h' tk' F' N' o1'; (have r1' := Mine.off65' o1' (by k_mem)); (try simp only [List.nil_append, List.cons_append] at N'); (try dsimp only)))
local macro_rules | `(tactic| walk_at "FinUA") => `(tactic| (k_here; (unfold Mine.FinUA); intro D' h' tk' F' N' o1'; (have r1' := Mine.off65' o1' (by k_mem)); (try simp only [List.nil_append, List.cons_append] at N'); (try dsimp only)))
local macro_rules | `(tactic| walk_at "eval Name") => `(tactic| (k_here; (with_reducible show wpAny _ _ (eval (Expr.Name _ _) (compEnvC _ _ _ _)) _ _ _); k_dflt (refine' Mine.ldCellU ?N ?c ?m ?d ?_ ?k ?l ?db ?n; (case k => exact rfl); (case l => exact rfl); (case N => k_asm); (case c => exact rfl); (case m => k_mem); (case d => k_asm); (case db => decide); (case n => decide); k_whole)))
local macro_rules | `(tactic| lcg_off) => `(tactic| first | exact True.intro | (k_dflt assumption) | (refine' And.intro ?aO ?bO; (case aO => first | exact Mine.off3_at (by assumption) (by k_mem) | exact ⟨by k_ne, by k_ne, by k_ne⟩); (case bO => first | lcg_off | exact Mine.off3_sub (by assumption) (fun q hq => by repeat (first | exact hq | refine List.Mem.tail _ ?_)))))
local macro_rules | `(tactic| k_mem) => `(tactic| ((fail_if_success (with_reducible refine' List.Mem.tail _ ?_)); first | with_reducible assumption | assumption))
local macro_rules | `(tactic| walk_at "eval BinOp") => `(tactic| (k_here; (with_reducible show wpAny _ _ (eval (Expr.BinOp _ Operator.Add (Expr.BinOp (Expr.List _ _) Operator.Mult _ _) _) _) _ _ _); k_dflt (refine' Mine.rowUse ?F ?N ?r ?_; (case F => k_asm); (case N => k_asm); (case r => ((repeat' (first | exact Mine.intE_const | refine' Mine.row_add ?_ ?_ ?_ | refine' Mine.row_mul ?_ ?_ ?_ ?_ ?_ | refine' Mine.row_list1 rfl ?_ | refine' Mine.row_list2 rfl rfl ?_ ?_)); (all_goals first | exact Nat.le_of_ble_eq_true rfl | decide | (intro s9 e9 Q9 E9 F9 N8 h9; (have N9 := Mine.newsSub N8 (fun q hq => List.mem_append_right e9 hq)); clear N8; k_steps; exact h9 _ _) | skip)))); (intro h' D' vs' tk' F' N' l1 i1; (try k_lt l1); (try k_sweep))))
local macro_rules | `(tactic| walk_at "call ref") => `(tactic| (k_here; (with_reducible show wpAny _ _ (call (.ref 206) [.ref _, .ref _, .int _ _]) _ _ _); k_dflt (refine' Mine.init2P ?B ?F ?X ?T ?N ?p1 ?hv ?p3 ?m2 ?hk ?hroom ?hG ?hos ?hP ?ht ?hl ?hm ?hr ?_); (case B | F | X | T | N => k_asm); (case p1 => repeat (first | exact Mine.Pick.head | apply Mine.Pick.tail)); (case hv => k_dflt (first | l_ints | assumption)); (case p3 => repeat (first | exact Mine.Pick.head | apply Mine.Pick.tail)); (case m2 => k_dflt k_mem); (case hk => rfl); (case hroom => k_room); (case hG | ht => assumption); (case hos => first | assumption | rfl); (case hP => omega); (case hl => first | decide | assumption | (refine neN ?_; omega)); (case hm => first | decide | assumption | (refine neN ?_; omega)); (case hr => tlg_ne); (intros; rename_i F' N' la' _ _ _ _ _ _ _ _ ht' hG' ho'; (try simp only [AllLt, and_true] at la'); (try dsimp only [List.getD_cons_zero, List.getD_cons_succ, Int.toNat_zero, Int.toNat_one, Int.toNat_ofNat] at N'); (try k_sweep))))
local macro_rules | `(tactic| walk_at "call ref") => `(tactic| (k_here; (with_reducible show wpAny _ _ (call (.ref 177) [.ref _, .ref 39, .int _ _]) _ _ _); k_dflt (refine' Mine.init39P ?B ?F ?X ?T ?N ?p1 ?hv ?p3 ?hk ?hroom ?hG ?hos ?hP ?ht ?hl ?hr ?_); (case B | F | X | T | N => k_asm); (case p1 => repeat (first | exact Mine.Pick.head | apply Mine.Pick.tail)); (case hv => k_dflt (first | l_ints | assumption)); (case p3 => repeat (first | exact Mine.Pick.head | apply Mine.Pick.tail)); (case hk => rfl); (case hroom => k_room); (case hG | ht => assumption); (case hos => first | assumption | rfl); (case hP => omega); (case hl => first | decide | assumption | (refine neN ?_; omega)); (case hr => tlg_ne); (intros; rename_i F' N' la' _ _ _ _ _ _ h65' hx' hxD' hxm' hxT' hxS' ht' hG' ho'; (try simp only [AllLt, and_true] at la'); (try dsimp only [List.getD_cons_zero, List.getD_cons_succ, Int.toNat_zero, Int.toNat_one, Int.toNat_ofNat] at N'); (try k_sweep))))
local macro_rules | `(tactic| walk_at "call ref") => `(tactic| (k_here; (with_reducible show wpAny _ _ (call (.ref 177) [.ref _, .ref 42, .int _ _]) _ _ _); k_dflt (refine' Mine.init42P ?B ?F ?X ?T ?N ?p1 ?hv ?p3 ?hk ?hroom ?hG ?hos ?hP ?ht ?hl ?hr ?_); (case B | F | X | T | N => k_asm); (case p1 => repeat (first | exact Mine.Pick.head | apply Mine.Pick.tail)); (case hv => k_dflt (first | l_ints | assumption)); (case p3 => repeat (first | exact Mine.Pick.head | apply Mine.Pick.tail)); (case hk => rfl); (case hroom => k_room); (case hG | ht => assumption); (case hos => first | assumption | rfl); (case hP => omega); (case hl => first | decide | assumption | (refine neN ?_; omega)); (case hr => tlg_ne); (intros; rename_i F' N' la' _ _ _ h65' hx' hxD' ht' hG' ho'; (try simp only [AllLt, and_true] at la'); (try dsimp only [List.getD_cons_zero, List.getD_cons_succ, Int.toNat_zero, Int.toNat_one, Int.toNat_ofNat] at N'); (try k_sweep))))

section
open PySem PySem.W PyProof.Rows PySem.Calls PyProof.Rows.LCg
set_option Elab.async false
namespace Mine
set_option maxRecDepth 100000 in
set_option maxHeartbeats 1500000 in
theorem negQ2 {prog : Program} {w : World} {p : Program} {loose : List Str} {mean : ExcName → Option Value} {mg mb : Str → Option Value}
   {dp un : Nat} {gd : Option (List Code)} {cn : Str} {cs : Scope} {a : Addr} {ccd : Value} {cl : List (Str × Addr)} {outer : List Env} {A₀ : Around} {base h₀ : Heap} {L : Addr} {m : Str → Option Value} {s : Shared} {Q E : Value → Shared → Prop}
   {fp x0 x1 x2 d1 D1 mc1 md1 : Addr} {k1 k2 k3 k4 k5 tk tkd t0 t1 tm0 tm1 : Tok} {P c0 c1 : Int} {ps : Array Value} {os0 : OsState} {news rest : List (Addr × Obj)}
   (B : Below A₀ base outer h₀) (F : Fr h₀ L s.heap m) (X : (hd.heap_1 w.params).In h₀) (T : Top p loose mean mg mb h₀) (N0 : News h₀ L s.heap news) (p3 : Pick (65, tabO ps) news rest)
   (m0 : (fp, tupO [.ref x0, .ref x1, .ref x2]) ∈ rest) (m1 : (x1, instObj 206 d1) ∈ rest) (m2 : (d1, fqD w k1 k2 k3 k4 k5 P tk mc1 D1 md1 2 tkd) ∈ rest) (m3 : (D1, tupO [.int c0 t0, .int c1 t1]) ∈ rest) (m4 : (md1, tupO [.int 1 tm0, .int 0 tm1]) ∈ rest) (hmd : @Ne Nat md1 65) (hk : cs.kind = .function)
   (hroom : dp + 12 < recursionLimit) (hG : AllBare s.gens) (hos : s.os = os0) (hP : P ≠ 0) (ht : TriplesOk ps.toList) (hr65 : Ne65o rest)
   (hQ : ∀ (s' : Shared) (R X1 E1 G1 nc1 : Addr) (ps' : Array Value) (j1 j2 j3 j4 j5 tje v0 v1 : Tok), Fr h₀ L s'.heap m →
     News h₀ L s'.heap ((R, tupO [.ref x0, .ref X1, .ref x2]) :: (X1, instObj 206 E1) :: (E1, fqD w j1 j2 j3 j4 j5 P tk nc1 G1 md1 2 tje) :: (G1, tupO [.int ((-c0).fmod P) v0, .int ((-c1).fmod P) v1]) :: (65, tabO ps') :: rest) → @Ne Nat R 65 → TriplesOk ps'.toList → AllBare s'.gens → s'.os = os0 → Q (.ref R) s') :
   wpAny (model prog w) (ktrTop dp un gd cn cs L a ccd cl outer) (call (.ref 215) [.ref fp]) Q E s := by
  have N2 : News h₀ L s.heap ((65, tabO ps) :: rest) := by
    refine newsSub N0 ?_
    exact List.forall_mem_cons.mpr ⟨p3.mem.1, fun q hq => p3.mem.2 q hq⟩
  clear N0 p3
  refine wpAny_call ?_
  k_dflt (refine' code_def ?k1 ?k2 ?k3 ?k4 ?k5 ?kA ?kF ?kK ?k6 ?k7 ?k8 ?k9 ?kB ?_ ?c2 ?c3 ?c4 ?c5; (case kA => exact rfl); (case kF => exact rfl); (case kK => assumption); (case k1 => k_asm); (case k2 => k_asm); (case k3 => k_asm); (case k4 => k_asm); (case k5 => k_asm); (case k6 => k_is); (case k7 => k_is); (case k8 => k_room); (case k9 => first | exact BindsTo.of_eq rfl | exact binds_K (by k_in) rfl (by k_is) rfl rfl rfl | fail "k_enter: no rule for these arguments"); (case c5 => decide); (case kB => exact locs rfl); (case c2 => exact rfl); (case c3 => exact rfl); (case c4 => exact rfl); k_whole)
  intro g' L' h' FG' F' N' B' X' T'
  (try dsimp only)
  (try k_lift B')
  (try k_fold)
  k_steps
  rename (News h₀ L _ _) => kN9
  refine' hQ _ _ _ _ _ _ _ _ _ _ _ _ _ _ _ (by k_asm) (newsSub kN9 ?sub) ?r65 (by assumption) (by assumption) (by assumption)
  case sub =>
    refine List.forall_mem_cons.mpr ⟨by k_mem, ?_⟩
    refine List.forall_mem_cons.mpr ⟨by k_mem, ?_⟩
    refine List.forall_mem_cons.mpr ⟨by k_mem, ?_⟩
    refine List.forall_mem_cons.mpr ⟨by k_mem, ?_⟩
    refine List.forall_mem_cons.mpr ⟨by k_mem, ?_⟩
    exact fun q hq => by repeat (first | exact hq | refine List.Mem.tail _ ?_)
  case r65 => refine neN ?_; omega
end Mine

end

section
open PySem PySem.W PyProof.Rows PySem.Calls PyProof.Rows.LCg
set_option Elab.async false
namespace Mine
set_option maxRecDepth 100000 in
set_option maxHeartbeats 1500000 in
theorem neg42 {prog : Program} {w : World} {p : Program} {loose : List Str} {mean : ExcName → Option Value} {mg mb : Str → Option Value}
   {dp un : Nat} {gd : Option (List Code)} {cn : Str} {cs : Scope} {a : Addr} {ccd : Value} {cl : List (Str × Addr)} {outer : List Env} {A₀ : Around} {base h₀ : Heap} {L : Addr} {m : Str → Option Value} {s : Shared} {Q E : Value → Shared → Prop}
   {fp x0 x1 x2 d1 D1 mc1 : Addr} {k1 k2 k3 k4 k5 tk tkd t0 t1 t2 t3 t4 t5 t6 t7 t8 t9 t10 t11 : Tok} {P c0 c1 c2 c3 c4 c5 c6 c7 c8 c9 c10 c11 : Int} {ps : Array Value} {os0 : OsState} {news rest : List (Addr × Obj)}
   (B : Below A₀ base outer h₀) (F : Fr h₀ L s.heap m) (X : (hd.heap_1 w.params).In h₀) (T : Top p loose mean mg mb h₀) (N0 : News h₀ L s.heap news) (p3 : Pick (65, tabO ps) news rest)
   (m0 : (fp, tupO [.ref x0, .ref x1, .ref x2]) ∈ rest) (m1 : (x1, instObj 177 d1) ∈ rest) (m2 : (d1, fqD w k1 k2 k3 k4 k5 P tk mc1 D1 42 12 tkd) ∈ rest) (m3 : (D1, tupO [.int c0 t0, .int c1 t1, .int c2 t2, .int c3 t3, .int c4 t4, .int c5 t5, .int c6 t6, .int c7 t7, .int c8 t8, .int c9 t9, .int c10 t10, .int c11 t11]) ∈ rest) (hk : cs.kind = .function)
   (hroom : dp + 12 < recursionLimit) (hG : AllBare s.gens) (hos : s.os = os0) (hP : P ≠ 0) (ht : TriplesOk ps.toList) (hr65 : Ne65o rest)
   (hQ : ∀ (s' : Shared) (R X1 E1 G1 nc1 : Addr) (ps' : Array Value) (j1 j2 j3 j4 j5 tje v0 v1 v2 v3 v4 v5 v6 v7 v8 v9 v10 v11 : Tok), Fr h₀ L s'.heap m →
     News h₀ L s'.heap ((R, tupO [.ref x0, .ref X1, .ref x2]) :: (X1, instObj 177 E1) :: (E1, fqD w j1 j2 j3 j4 j5 P tk nc1 G1 42 12 tje) :: (G1, tupO [.int ((-c0).fmod P) v0, .int ((-c1).fmod P) v1, .int ((-c2).fmod P) v2, .int ((-c3).fmod P) v3, .int ((-c4).fmod P) v4, .int ((-c5).fmod P) v5, .int ((-c6).fmod P) v6, .int ((-c7).fmod P) v7, .int ((-c8).fmod P) v8, .int ((-c9).fmod P) v9, .int ((-c10).fmod P) v10, .int ((-c11).fmod P) v11]) :: (65, tabO ps') :: rest) → @Ne Nat R 65 → TriplesOk ps'.toList → AllBare s'.gens → s'.os = os0 → Q (.ref R) s') :
   wpAny (model prog w) (ktrTop dp un gd cn cs L a ccd cl outer) (call (.ref 215) [.ref fp]) Q E s := by
  have N2 : News h₀ L s.heap ((65, tabO ps) :: rest) := by
    refine newsSub N0 ?_
    exact List.forall_mem_cons.mpr ⟨p3.mem.1, fun q hq => p3.mem.2 q hq⟩
  clear N0 p3
  refine wpAny_call ?_
  k_dflt (refine' code_def ?k1 ?k2 ?k3 ?k4 ?k5 ?kA ?kF ?kK ?k6 ?k7 ?k8 ?k9 ?kB ?_ ?c2 ?c3 ?c4 ?c5; (case kA => exact rfl); (case kF => exact rfl); (case kK => assumption); (case k1 => k_asm); (case k2 => k_asm); (case k3 => k_asm); (case k4 => k_asm); (case k5 => k_asm); (case k6 => k_is); (case k7 => k_is); (case k8 => k_room); (case k9 => first | exact BindsTo.of_eq rfl | exact binds_K (by k_in) rfl (by k_is) rfl rfl rfl | fail "k_enter: no rule for these arguments"); (case c5 => decide); (case kB => exact locs rfl); (case c2 => exact rfl); (case c3 => exact rfl); (case c4 => exact rfl); k_whole)
  intro g' L' h' FG' F' N' B' X' T'
  (try dsimp only)
  (try k_lift B')
  (try k_fold)
  k_steps
  rename (News h₀ L _ _) => kN9
  refine' hQ _ _ _ _ _ _ _ _ _ _ _ _ _ _ _ _ _ _ _ _ _ _ _ _ _ (by k_asm) (newsSub kN9 ?sub) ?r65 (by assumption) (by assumption) (by assumption)
  case sub =>
    refine List.forall_mem_cons.mpr ⟨by k_mem, ?_⟩
    refine List.forall_mem_cons.mpr ⟨by k_mem, ?_⟩
    refine List.forall_mem_cons.mpr ⟨by k_mem, ?_⟩
    refine List.forall_mem_cons.mpr ⟨by k_mem, ?_⟩
    refine List.forall_mem_cons.mpr ⟨by k_mem, ?_⟩
    exact fun q hq => by repeat (first | exact hq | refine List.Mem.tail _ ?_)
  case r65 => refine neN ?_; omega
end Mine

end

section
open PySem PySem.W PyProof.Rows PySem.Calls PyProof.Rows.LCg
set_option Elab.async false
namespace Mine
set_option maxRecDepth 100000 in
set_option maxHeartbeats 1500000 in
theorem neg39 {prog : Program} {w : World} {p : Program} {loose : List Str} {mean : ExcName → Option Value} {mg mb : Str → Option Value}
   {dp un : Nat} {gd : Option (List Code)} {cn : Str} {cs : Scope} {a : Addr} {ccd : Value} {cl : List (Str × Addr)} {outer : List Env} {A₀ : Around} {base h₀ : Heap} {L : Addr} {m : Str → Option Value} {s : Shared} {Q E : Value → Shared → Prop}
   {fp x0 x1 x2 d1 D1 mc1 : Addr} {k1 k2 k3 k4 k5 tk tkd t0 t1 t2 t3 t4 t5 t6 t7 t8 t9 t10 t11 : Tok} {P c0 c1 c2 c3 c4 c5 c6 c7 c8 c9 c10 c11 : Int} {ps : Array Value} {os0 : OsState} {news rest : List (Addr × Obj)}
   (B : Below A₀ base outer h₀) (F : Fr h₀ L s.heap m) (X : (hd.heap_1 w.params).In h₀) (T : Top p loose mean mg mb h₀) (N0 : News h₀ L s.heap news) (p3 : Pick (65, tabO ps) news rest)
   (m0 : (fp, tupO [.ref x0, .ref x1, .ref x2]) ∈ rest) (m1 : (x1, instObj 177 d1) ∈ rest) (m2 : (d1, fqD w k1 k2 k3 k4 k5 P tk mc1 D1 39 12 tkd) ∈ rest) (m3 : (D1, tupO [.int c0 t0, .int c1 t1, .int c2 t2, .int c3 t3, .int c4 t4, .int c5 t5, .int c6 t6, .int c7 t7, .int c8 t8, .int c9 t9, .int c10 t10, .int c11 t11]) ∈ rest) (hk : cs.kind = .function)
   (hroom : dp + 12 < recursionLimit) (hG : AllBare s.gens) (hos : s.os = os0) (hP : P ≠ 0) (ht : TriplesOk ps.toList) (hr65 : Ne65o rest)
   (hQ : ∀ (s' : Shared) (R X1 E1 G1 nc1 : Addr) (ps' : Array Value) (j1 j2 j3 j4 j5 tje v0 v1 v2 v3 v4 v5 v6 v7 v8 v9 v10 v11 : Tok), Fr h₀ L s'.heap m →
     News h₀ L s'.heap ((R, tupO [.ref x0, .ref X1, .ref x2]) :: (X1, instObj 177 E1) :: (E1, fqD w j1 j2 j3 j4 j5 P tk nc1 G1 39 12 tje) :: (G1, tupO [.int ((-c0).fmod P) v0, .int ((-c1).fmod P) v1, .int ((-c2).fmod P) v2, .int ((-c3).fmod P) v3, .int ((-c4).fmod P) v4, .int ((-c5).fmod P) v5, .int ((-c6).fmod P) v6, .int ((-c7).fmod P) v7, .int ((-c8).fmod P) v8, .int ((-c9).fmod P) v9, .int ((-c10).fmod P) v10, .int ((-c11).fmod P) v11]) :: (65, tabO ps') :: rest) → @Ne Nat R 65 → TriplesOk ps'.toList → AllBare s'.gens → s'.os = os0 → Q (.ref R) s') :
   wpAny (model prog w) (ktrTop dp un gd cn cs L a ccd cl outer) (call (.ref 28) [.ref fp]) Q E s := by
  have N2 : News h₀ L s.heap ((65, tabO ps) :: rest) := by
    refine newsSub N0 ?_
    exact List.forall_mem_cons.mpr ⟨p3.mem.1, fun q hq => p3.mem.2 q hq⟩
  clear N0 p3
  refine wpAny_call ?_
  k_dflt (refine' code_def ?k1 ?k2 ?k3 ?k4 ?k5 ?kA ?kF ?kK ?k6 ?k7 ?k8 ?k9 ?kB ?_ ?c2 ?c3 ?c4 ?c5; (case kA => exact rfl); (case kF => exact rfl); (case kK => assumption); (case k1 => k_asm); (case k2 => k_asm); (case k3 => k_asm); (case k4 => k_asm); (case k5 => k_asm); (case k6 => k_is); (case k7 => k_is); (case k8 => k_room); (case k9 => first | exact BindsTo.of_eq rfl | exact binds_K (by k_in) rfl (by k_is) rfl rfl rfl | fail "k_enter: no rule for these arguments"); (case c5 => decide); (case kB => exact locs rfl); (case c2 => exact rfl); (case c3 => exact rfl); (case c4 => exact rfl); k_whole)
  intro g' L' h' FG' F' N' B' X' T'
  (try dsimp only)
  (try k_lift B')
  (try k_fold)
  k_steps
  rename (News h₀ L _ _) => kN9
  refine' hQ _ _ _ _ _ _ _ _ _ _ _ _ _ _ _ _ _ _ _ _ _ _ _ _ _ (by k_asm) (newsSub kN9 ?sub) ?r65 (by assumption) (by assumption) (by assumption)
  case sub =>
    refine List.forall_mem_cons.mpr ⟨by k_mem, ?_⟩
    refine List.forall_mem_cons.mpr ⟨by k_mem, ?_⟩
    refine List.forall_mem_cons.mpr ⟨by k_mem, ?_⟩
    refine List.forall_mem_cons.mpr ⟨by k_mem, ?_⟩
    refine List.forall_mem_cons.mpr ⟨by k_mem, ?_⟩
    exact fun q hq => by repeat (first | exact hq | refine List.Mem.tail _ ?_)
  case r65 => refine neN ?_; omega
end Mine

end

section
open PySem PySem.W PyProof.Rows PySem.Calls PyProof.Rows.LCg
set_option Elab.async false
namespace Mine
set_option maxRecDepth 100000 in
set_option maxHeartbeats 1500000 in
theorem twist2P {prog : Program} {w : World} {p : Program} {loose : List Str} {mean : ExcName → Option Value} {mg mb : Str → Option Value}
   {dp un : Nat} {gd : Option (List Code)} {cn : Str} {cs : Scope} {a : Addr} {ccd : Value} {cl : List (Str × Addr)} {outer : List Env} {A₀ : Around} {base h₀ : Heap} {L : Addr} {m : Str → Option Value} {s : Shared} {Q E : Value → Shared → Prop}
   {fp x0 d0 D0 md0 mc0 x1 d1 D1 md1 mc1 x2 d2 D2 md2 mc2 t d3 D3 mc3 : Addr} {k01 k02 k03 k04 k05 tk0 tkd0 ta0 tb0 k11 k12 k13 k14 k15 tk1 tkd1 ta1 tb1 k21 k22 k23 k24 k25 tk2 tkd2 ta2 tb2 k31 k32 k33 k34 k35 tk3 tkd3 : Tok} {P a0 a1 a2 b0 b1 b2 : Int} {ps : Array Value} {os0 : OsState} {news rest : List (Addr × Obj)}
   (B : Below A₀ base outer h₀) (F : Fr h₀ L s.heap m) (X : (hd.heap_1 w.params).In h₀) (T : Top p loose mean mg mb h₀) (N0 : News h₀ L s.heap news) (p3 : Pick (65, tabO ps) news rest)
   (m0 : (fp, tupO [.ref x0, .ref x1, .ref x2]) ∈ rest) (m1 : (x0, instObj 206 d0) ∈ rest) (m2 : (d0, fqD w k01 k02 k03 k04 k05 P tk0 mc0 D0 md0 2 tkd0) ∈ rest) (m3 : (D0, tupO [.int a0 ta0, .int b0 tb0]) ∈ rest) (m4 : (x1, instObj 206 d1) ∈ rest) (m5 : (d1, fqD w k11 k12 k13 k14 k15 P tk1 mc1 D1 md1 2 tkd1) ∈ rest) (m6 : (D1, tupO [.int a1 ta1, .int b1 tb1]) ∈ rest) (m7 : (x2, instObj 206 d2) ∈ rest) (m8 : (d2, fqD w k21 k22 k23 k24 k25 P tk2 mc2 D2 md2 2 tkd2) ∈ rest) (m9 : (D2, tupO [.int a2 ta2, .int b2 tb2]) ∈ rest) (m10 : (t, instObj 177 d3) ∈ rest) (m11 : (d3, fqD w k31 k32 k33 k34 k35 P tk3 mc3 D3 42 12 tkd3) ∈ rest) (hk : cs.kind = .function)
   (hroom : dp + 10 < recursionLimit) (hG : AllBare s.gens) (hos : s.os = os0) (hP : P ≠ 0) (ht : TriplesOk ps.toList) (hr65 : Ne65o rest)
   (hQ : ∀ (s' : Shared) (R X0 E0 G0 nc0 X1 E1 G1 nc1 X2 E2 G2 nc2 : Addr) (ps' : Array Value) (j01 j02 j03 j04 j05 tje0 v00 v01 v02 v03 v04 v05 v06 v07 v08 v09 v010 v011 j11 j12 j13 j14 j15 tje1 v10 v11 v12 v13 v14 v15 v16 v17 v18 v19 v110 v111 j21 j22 j23 j24 j25 tje2 v20 v21 v22 v23 v24 v25 v26 v27 v28 v29 v210 v211 : Tok), Fr h₀ L s'.heap m →
     News h₀ L s'.heap ((R, tupO [.ref X0, .ref X1, .ref X2]) :: (X0, instObj 177 E0) :: (E0, fqD w j01 j02 j03 j04 j05 P tk3 nc0 G0 42 12 tje0) :: (G0, tupO [.int (((0 : Int)).fmod P) v00, .int (((a0 - b0)).fmod P) v01, .int (((0 : Int)).fmod P) v02, .int (((0 : Int)).fmod P) v03, .int (((0 : Int)).fmod P) v04, .int (((0 : Int)).fmod P) v05, .int (((0 : Int)).fmod P) v06, .int ((b0).fmod P) v07, .int (((0 : Int)).fmod P) v08, .int (((0 : Int)).fmod P) v09, .int (((0 : Int)).fmod P) v010, .int (((0 : Int)).fmod P) v011]) :: (X1, instObj 177 E1) :: (E1, fqD w j11 j12 j13 j14 j15 P tk3 nc1 G1 42 12 tje1) :: (G1, tupO [.int (((a1 - b1)).fmod P) v10, .int (((0 : Int)).fmod P) v11, .int (((0 : Int)).fmod P) v12, .int (((0 : Int)).fmod P) v13, .int (((0 : Int)).fmod P) v14, .int (((0 : Int)).fmod P) v15, .int ((b1).fmod P) v16, .int (((0 : Int)).fmod P) v17, .int (((0 : Int)).fmod P) v18, .int (((0 : Int)).fmod P) v19, .int (((0 : Int)).fmod P) v110, .int (((0 : Int)).fmod P) v111]) :: (X2, instObj 177 E2) :: (E2, fqD w j21 j22 j23 j24 j25 P tk3 nc2 G2 42 12 tje2) :: (G2, tupO [.int (((0 : Int)).fmod P) v20, .int (((0 : Int)).fmod P) v21, .int (((0 : Int)).fmod P) v22, .int (((a2 - b2)).fmod P) v23, .int (((0 : Int)).fmod P) v24, .int (((0 : Int)).fmod P) v25, .int (((0 : Int)).fmod P) v26, .int (((0 : Int)).fmod P) v27, .int (((0 : Int)).fmod P) v28, .int ((b2).fmod P) v29, .int (((0 : Int)).fmod P) v210, .int (((0 : Int)).fmod P) v211]) :: (65, tabO ps') :: rest) → @Ne Nat R 65 → TriplesOk ps'.toList → AllBare s'.gens → s'.os = os0 → Q (.ref R) s') :
   wpAny (model prog w) (ktrTop dp un gd cn cs L a ccd cl outer) (call (.ref 222) [.ref fp, .ref t]) Q E s := by
  have N2 : News h₀ L s.heap ((65, tabO ps) :: rest) := by
    refine newsSub N0 ?_
    exact List.forall_mem_cons.mpr ⟨p3.mem.1, fun q hq => p3.mem.2 q hq⟩
  clear N0 p3
  refine wpAny_call ?_
  k_dflt (refine' code_def ?k1 ?k2 ?k3 ?k4 ?k5 ?kA ?kF ?kK ?k6 ?k7 ?k8 ?k9 ?kB ?_ ?c2 ?c3 ?c4 ?c5; (case kA => exact rfl); (case kF => exact rfl); (case kK => assumption); (case k1 => k_asm); (case k2 => k_asm); (case k3 => k_asm); (case k4 => k_asm); (case k5 => k_asm); (case k6 => k_is); (case k7 => k_is); (case k8 => k_room); (case k9 => first | exact BindsTo.of_eq rfl | exact binds_K (by k_in) rfl (by k_is) rfl rfl rfl | fail "k_enter: no rule for these arguments"); (case c5 => decide); (case kB => exact locs rfl); (case c2 => exact rfl); (case c3 => exact rfl); (case c4 => exact rfl); k_whole)
  intro g' L' h' FG' F' N' B' X' T'
  (try dsimp only)
  (try k_lift B')
  (try k_fold)
  k_steps
  rename (News h₀ L _ _) => kN9
  refine' hQ _ _ _ _ _ _ _ _ _ _ _ _ _ _ _ _ _ _ _ _ _ _ _ _ _ _ _ _ _ _ _ _ _ _ _ _ _ _ _ _ _ _ _ _ _ _ _ _ _ _ _ _ _ _ _ _ _ _ _ _ _ _ _ _ _ _ _ _ _ (by k_asm) (newsSub kN9 ?sub) ?r65 (by assumption) (by assumption) (by assumption)
  case sub =>
    refine List.forall_mem_cons.mpr ⟨by k_mem, ?_⟩
    refine List.forall_mem_cons.mpr ⟨by k_mem, ?_⟩
    refine List.forall_mem_cons.mpr ⟨by k_mem, ?_⟩
    refine List.forall_mem_cons.mpr ⟨by k_mem, ?_⟩
    refine List.forall_mem_cons.mpr ⟨by k_mem, ?_⟩
    refine List.forall_mem_cons.mpr ⟨by k_mem, ?_⟩
    refine List.forall_mem_cons.mpr ⟨by k_mem, ?_⟩
    refine List.forall_mem_cons.mpr ⟨by k_mem, ?_⟩
    refine List.forall_mem_cons.mpr ⟨by k_mem, ?_⟩
    refine List.forall_mem_cons.mpr ⟨by k_mem, ?_⟩
    refine List.forall_mem_cons.mpr ⟨by k_mem, ?_⟩
    exact fun q hq => by repeat (first | exact hq | refine List.Mem.tail _ ?_)
  case r65 => refine neN ?_; omega

end Mine

end

section
open PySem PySem.W PyProof.Rows PySem.Calls PyProof.Rows.LCg
set_option Elab.async false
namespace Mine
theorem absQ {α : Type} {Q : α → Shared → Prop} {P : (α → Shared → Prop) → Prop} (h : ∀ Q', (∀ a s, Q a s → Q' a s) → P Q') : P Q := h Q (fun _ _ x => x)
theorem ex3 {α β γ : Type} {P : α → β → γ → Prop} {G : Prop} (h : ∃ a b c, P a b c) (k : ∀ a b c, P a b c → G) : G := h.elim fun a h => h.elim fun b h => h.elim fun c h => k a b c h
theorem ex5 {α β γ δ ε : Type} {P : α → β → γ → δ → ε → Prop} {G : Prop} (h : ∃ a b c d e, P a b c d e) (k : ∀ a b c d e, P a b c d e → G) : G := h.elim fun a h => h.elim fun b h => ex3 h (k a b)
theorem ex12 {α : Type} {P : α → α → α → α → α → α → α → α → α → α → α → α → Prop} {G : Prop} (h : ∃ a b c d e f g i j k l m, P a b c d e f g i j k l m) (t : ∀ a b c d e f g i j k l m, P a b c d e f g i j k l m → G) : G := h.elim fun a h => h.elim fun b h => ex5 h fun c d e f g h => ex5 h fun i j k l m h => t a b c d e f g i j k l m h
local macro_rules | `(tactic| k_steps) => `(tactic| repeat' ((fail_if_success (with_reducible show wpAny _ _ (execs (Stmt.For _ _ _ _ _ :: _) _) _ _ _)); (fail_if_success (with_reducible show wpAny _ _ (pyIter _) _ _ _)); (fail_if_success (with_reducible show UnrPostW _ _ _ _ _ _ _ _)); (fail_if_success (with_reducible show UnrPost _ _ _ _ _ _ _ _ _)); first | (k_unfold; (try dsimp only)) | (k_end; wrow_close) | walk1 | (dsimp only; walk1) | (leave1; walk_say "STEP leave1"; try dsimp only) | fail "no step"))
local macro_rules | `(tactic| walk_at "setItem ref int") => `(tactic| (k_here; (with_reducible show wpAny _ _ (setItem (Value.ref _) (Value.int _ _) (Value.int _ _)) _ _ _); k_dflt (refine' Mine.storeD ?F ?N ?P ?o ?i ?a ?b ?c ?_; (case F => k_asm); (case N => k_asm); (case P => repeat (first | exact Mine.Pick.head | apply Mine.Pick.tail)); (case o => assumption); (case i => assumption); (case a => omega); (case b => omega); (case c => omega)); intro h' bv' F' N' hi'; (try k_sweep)))
local macro_rules | `(tactic| walk_at "call builtin:list.pop") => `(tactic| (k_here; (with_reducible show wpAny _ _ (call (Value.builtin _) [Value.ref _]) _ _ _); k_dflt (refine' Mine.popD ?F ?N ?P ?o ?i ?a ?b ?_; (case F => k_asm); (case N => k_asm); (case P => repeat (first | exact Mine.Pick.head | apply Mine.Pick.tail)); (case o => assumption); (case i => assumption); (case a => omega); (case b => omega)); intro h' bv' t' F' N' hi'; (try k_sweep)))
set_option maxRecDepth 100000 in
set_option maxHeartbeats 6000000 in
theorem mul39 {prog : Program} {w : World} {p : Program} {loose : List Str} {mean : ExcName → Option Value} {mg mb : Str → Option Value}
   {dp un : Nat} {gd : Option (List Code)} {cn : Str} {cs : Scope} {a : Addr} {ccd : Value} {cl : List (Str × Addr)} {outer : List Env} {A₀ : Around} {base h₀ : Heap} {L : Addr} {m : Str → Option Value} {s : Shared} {Q E : Value → Shared → Prop}
   {x dx mcx Dx T0x T6x y dy mcy Dy : Addr} {kx1 kx2 kx3 kx4 kx5 tkdx tx0 tx1 tx2 tx3 tx4 tx5 tx6 tx7 tx8 tx9 tx10 tx11 u0x u6x ky1 ky2 ky3 ky4 ky5 tkdy ty0 ty1 ty2 ty3 ty4 ty5 ty6 ty7 ty8 ty9 ty10 ty11 tkP : Tok} {P x0 x1 x2 x3 x4 x5 x6 x7 x8 x9 x10 x11 y0 y1 y2 y3 y4 y5 y6 y7 y8 y9 y10 y11 r0 r1 r2 r3 r4 r5 r6 r7 r8 r9 r10 r11 : Int} {ps : Array Value} {os0 : OsState} {news rest : List (Addr × Obj)}
   (B : Below A₀ base outer h₀) (F : Fr h₀ L s.heap m) (X : (hd.heap_1 w.params).In h₀) (T : Top p loose mean mg mb h₀) (N0 : News h₀ L s.heap news) (p3 : Pick (65, tabO ps) news rest)
   (m0 : (x, instObj 177 dx) ∈ rest) (m1 : (dx, fqD w kx1 kx2 kx3 kx4 kx5 P tkP mcx Dx 39 12 tkdx) ∈ rest) (m2 : (Dx, tupO [.int x0 tx0, .int x1 tx1, .int x2 tx2, .int x3 tx3, .int x4 tx4, .int x5 tx5, .int x6 tx6, .int x7 tx7, .int x8 tx8, .int x9 tx9, .int x10 tx10, .int x11 tx11]) ∈ rest) (m3 : (mcx, lst [.ref T0x, .ref T6x]) ∈ rest) (m4 : (T0x, pairO 0 u0x (.int 82 233)) ∈ rest) (m5 : (T6x, pairO 6 u6x (.int (-18) 240)) ∈ rest) (m6 : (y, instObj 177 dy) ∈ rest) (m7 : (dy, fqD w ky1 ky2 ky3 ky4 ky5 P tkP mcy Dy 39 12 tkdy) ∈ rest) (m8 : (Dy, tupO [.int y0 ty0, .int y1 ty1, .int y2 ty2, .int y3 ty3, .int y4 ty4, .int y5 ty5, .int y6 ty6, .int y7 ty7, .int y8 ty8, .int y9 ty9, .int y10 ty10, .int y11 ty11]) ∈ rest) (hk : cs.kind = .function)
   (hroom : dp + 12 < recursionLimit) (hG : AllBare s.gens) (hos : s.os = os0) (hP : P ≠ 0) (ht : TriplesOk ps.toList) (hr65 : Ne65o rest) (hy : ∀ y ∈ [y0, y1, y2, y3, y4, y5, y6, y7, y8, y9, y10, y11], 0 ≤ y ∧ y ≤ 1) (hml : mulL [x0, x1, x2, x3, x4, x5, x6, x7, x8, x9, x10, x11] [y0, y1, y2, y3, y4, y5, y6, y7, y8, y9, y10, y11] = [r0, r1, r2, r3, r4, r5, r6, r7, r8, r9, r10, r11])
   (hQ : ∀ (s' : Shared) (X1 E1 G1 nc1 U0 U6 : Addr) (ps' : Array Value) (j1 j2 j3 j4 j5 tje q0 q6 v0 v1 v2 v3 v4 v5 v6 v7 v8 v9 v10 v11 : Tok), Fr h₀ L s'.heap m →
     News h₀ L s'.heap ((X1, instObj 177 E1) :: (E1, fqD w j1 j2 j3 j4 j5 P tkP nc1 G1 39 12 tje) :: (G1, tupO [.int (r0.fmod P) v0, .int (r1.fmod P) v1, .int (r2.fmod P) v2, .int (r3.fmod P) v3, .int (r4.fmod P) v4, .int (r5.fmod P) v5, .int (r6.fmod P) v6, .int (r7.fmod P) v7, .int (r8.fmod P) v8, .int (r9.fmod P) v9, .int (r10.fmod P) v10, .int (r11.fmod P) v11]) :: (nc1, lst [.ref U0, .ref U6]) :: (U0, pairO 0 q0 (.int 82 233)) :: (U6, pairO 6 q6 (.int (-18) 240)) :: (65, tabO ps') :: rest) → TriplesOk ps'.toList → AllBare s'.gens → s'.os = os0 → Q (.ref X1) s') :
   wpAny (model prog w) (ktrTop dp un gd cn cs L a ccd cl outer) (call (.ref 97) [.ref x, .ref y]) Q E s := by
  have N2 : News h₀ L s.heap ((65, tabO ps) :: rest) := by
    refine newsSub N0 ?_
    exact List.forall_mem_cons.mpr ⟨p3.mem.1, fun q hq => p3.mem.2 q hq⟩
  clear N0 p3
  replace hml : Keep (_ = _) := ⟨hml⟩
  refine wpAny_call ?_
  k_dflt (refine' code_defC ?k1 ?k2 ?k3 ?k4 ?k5 ?kA ?kF ?kK ?k6 ?k7 ?k8 ?k9 ?kB ?kD ?_ ?c2 ?c3 ?c4; (case kA => exact rfl); (case kF => exact rfl); (case kK => assumption); (case k1 => k_asm); (case k2 => k_asm); (case k3 => k_asm); (case k4 => k_asm); (case k5 => k_asm); (case k6 => k_is); (case k7 => k_is); (case k8 => k_room); (case k9 => first | exact BindsTo.of_eq rfl | exact binds_K (by k_in) rfl (by k_is) rfl rfl rfl | fail "k_enter: no rule for these arguments"); (case kB => exact rfl); (case kD => decide +kernel); (case c2 => exact rfl); (case c3 => exact rfl); (case c4 => exact rfl); k_whole)
  intro g' L' h' tk' cells' FG' F' N' Y' B' X' T' l1
  (try k_lt l1)
  k_cells Y'
  (try simp only [List.cons_append, List.nil_append] at N')
  (try dsimp only)
  (try k_lift B')
  (try k_fold)
  k_steps
  k_dflt (refine' Mine.enumK ?F ?N ?hm ?_; (case F => k_asm); (case N => k_asm); (case hm => k_mem))
  intro I1 oI1 h1 lI1 hI1 F1 N1
  k_steps
  k_dflt (refine' Mine.listEnum12 ?hh ?F ?N ?hI ?hm ?hlt ?_; (case hh => rfl); (case F => k_asm); (case N => k_asm); (case hI => assumption); (case hm => k_mem); (case hlt => assumption))
  intro S2 T20 T21 T22 T23 T24 T25 T26 T27 T28 T29 T30 T31 w0 w1 w2 w3 w4 w5 w6 w7 w8 w9 w10 w11 c2 h2 tk2 F2 hS2 N2
  k_steps
  rename_i o1 o2 dd1 dd2 tkz lz hz3 lz1 D hz2 iz nz sz ez1 ez2 ez3 lz2 hz1 hz FF NN
  have hDrest : ∀ p ∈ rest, p.1 ≠ D := by
    have hl := lz2
    repeat (first | exact ne_allLt hl | (replace hl := hl.2))
  have hDS : @LT.lt Nat _ D S2 := hS2 (D, _) (by k_mem)
  have N9 : News g' L' hz ((D, _) :: (S2, listOf #[.ref T20, .ref T21, .ref T22, .ref T23, .ref T24, .ref T25, .ref T26, .ref T27, .ref T28, .ref T29, .ref T30, .ref T31] c2) :: (T20, pairO 0 w0 (.int y0 ty0)) :: (T21, pairO 1 w1 (.int y1 ty1)) :: (T22, pairO 2 w2 (.int y2 ty2)) :: (T23, pairO 3 w3 (.int y3 ty3)) :: (T24, pairO 4 w4 (.int y4 ty4)) :: (T25, pairO 5 w5 (.int y5 ty5)) :: (T26, pairO 6 w6 (.int y6 ty6)) :: (T27, pairO 7 w7 (.int y7 ty7)) :: (T28, pairO 8 w8 (.int y8 ty8)) :: (T29, pairO 9 w9 (.int y9 ty9)) :: (T30, pairO 10 w10 (.int y10 ty10)) :: (T31, pairO 11 w11 (.int y11 ty11)) :: (L' + 1 + 1, o1) :: (L' + 1, o2) :: (65, tabO ps) :: rest) := newsSub NN (by
    refine List.forall_mem_cons.mpr ⟨by k_mem, ?_⟩
    refine List.forall_mem_cons.mpr ⟨by k_mem, ?_⟩
    refine List.forall_mem_cons.mpr ⟨by k_mem, ?_⟩
    refine List.forall_mem_cons.mpr ⟨by k_mem, ?_⟩
    refine List.forall_mem_cons.mpr ⟨by k_mem, ?_⟩
    refine List.forall_mem_cons.mpr ⟨by k_mem, ?_⟩
    refine List.forall_mem_cons.mpr ⟨by k_mem, ?_⟩
    refine List.forall_mem_cons.mpr ⟨by k_mem, ?_⟩
    refine List.forall_mem_cons.mpr ⟨by k_mem, ?_⟩
    refine List.forall_mem_cons.mpr ⟨by k_mem, ?_⟩
    refine List.forall_mem_cons.mpr ⟨by k_mem, ?_⟩
    refine List.forall_mem_cons.mpr ⟨by k_mem, ?_⟩
    refine List.forall_mem_cons.mpr ⟨by k_mem, ?_⟩
    refine List.forall_mem_cons.mpr ⟨by k_mem, ?_⟩
    refine List.forall_mem_cons.mpr ⟨by k_mem, ?_⟩
    refine List.forall_mem_cons.mpr ⟨by k_mem, ?_⟩
    refine List.forall_mem_cons.mpr ⟨by k_mem, ?_⟩
    exact fun q hq => by repeat (first | exact hq | refine List.Mem.tail _ ?_))
  clear NN
  generalize (List.replicate (12 * 2 - 1 : Int).toNat [Value.int 0 tkz]).flatten = bv0 at N9 iz sz
  have iz0 : IntsAre bv0 (List.replicate 23 0) := iz
  clear iz sz ez1 ez2 ez3 nz
  have hoff : ∀ p ∈ (S2, listOf #[.ref T20, .ref T21, .ref T22, .ref T23, .ref T24, .ref T25, .ref T26, .ref T27, .ref T28, .ref T29, .ref T30, .ref T31] c2) :: (T20, pairO 0 w0 (.int y0 ty0)) :: (T21, pairO 1 w1 (.int y1 ty1)) :: (T22, pairO 2 w2 (.int y2 ty2)) :: (T23, pairO 3 w3 (.int y3 ty3)) :: (T24, pairO 4 w4 (.int y4 ty4)) :: (T25, pairO 5 w5 (.int y5 ty5)) :: (T26, pairO 6 w6 (.int y6 ty6)) :: (T27, pairO 7 w7 (.int y7 ty7)) :: (T28, pairO 8 w8 (.int y8 ty8)) :: (T29, pairO 9 w9 (.int y9 ty9)) :: (T30, pairO 10 w10 (.int y10 ty10)) :: (T31, pairO 11 w11 (.int y11 ty11)) :: (L' + 1 + 1, o1) :: (L' + 1, o2) :: (65, tabO ps) :: rest, p.1 ≠ D := by
    refine List.forall_mem_cons.mpr ⟨Nat.ne_of_gt hDS, ?_⟩
    refine List.forall_mem_cons.mpr ⟨clsNe N9 (a := T20) (b := D) (by k_mem) (by k_mem) tupList, ?_⟩
    refine List.forall_mem_cons.mpr ⟨clsNe N9 (a := T21) (b := D) (by k_mem) (by k_mem) tupList, ?_⟩
    refine List.forall_mem_cons.mpr ⟨clsNe N9 (a := T22) (b := D) (by k_mem) (by k_mem) tupList, ?_⟩
    refine List.forall_mem_cons.mpr ⟨clsNe N9 (a := T23) (b := D) (by k_mem) (by k_mem) tupList, ?_⟩
    refine List.forall_mem_cons.mpr ⟨clsNe N9 (a := T24) (b := D) (by k_mem) (by k_mem) tupList, ?_⟩
    refine List.forall_mem_cons.mpr ⟨clsNe N9 (a := T25) (b := D) (by k_mem) (by k_mem) tupList, ?_⟩
    refine List.forall_mem_cons.mpr ⟨clsNe N9 (a := T26) (b := D) (by k_mem) (by k_mem) tupList, ?_⟩
    refine List.forall_mem_cons.mpr ⟨clsNe N9 (a := T27) (b := D) (by k_mem) (by k_mem) tupList, ?_⟩
    refine List.forall_mem_cons.mpr ⟨clsNe N9 (a := T28) (b := D) (by k_mem) (by k_mem) tupList, ?_⟩
    refine List.forall_mem_cons.mpr ⟨clsNe N9 (a := T29) (b := D) (by k_mem) (by k_mem) tupList, ?_⟩
    refine List.forall_mem_cons.mpr ⟨clsNe N9 (a := T30) (b := D) (by k_mem) (by k_mem) tupList, ?_⟩
    refine List.forall_mem_cons.mpr ⟨clsNe N9 (a := T31) (b := D) (by k_mem) (by k_mem) tupList, ?_⟩
    refine List.forall_mem_cons.mpr ⟨(by dsimp only; refine neN ?_; omega), ?_⟩
    refine List.forall_mem_cons.mpr ⟨(by dsimp only; refine neN ?_; omega), ?_⟩
    refine List.forall_mem_cons.mpr ⟨(by dsimp only; refine neN ?_; omega), ?_⟩
    exact hDrest
  have hXs : IntsAre [.int x0 tx0, .int x1 tx1, .int x2 tx2, .int x3 tx3, .int x4 tx4, .int x5 tx5, .int x6 tx6, .int x7 tx7, .int x8 tx8, .int x9 tx9, .int x10 tx10, .int x11 tx11] [x0, x1, x2, x3, x4, x5, x6, x7, x8, x9, x10, x11] := by (repeat (first | exact IntsAre.nil | refine IntsAre.cons _ _ ?_))
  have hP2 : ∀ (j : Nat) (v : Value), ([.ref T20, .ref T21, .ref T22, .ref T23, .ref T24, .ref T25, .ref T26, .ref T27, .ref T28, .ref T29, .ref T30, .ref T31] : List Value)[j]? = some v → j < 12 ∧ ∃ (T : Addr) (wt t : Tok), v = .ref T ∧ (T, pairO j wt (.int (([y0, y1, y2, y3, y4, y5, y6, y7, y8, y9, y10, y11] : List Int).getD j 0) t)) ∈ (S2, listOf #[.ref T20, .ref T21, .ref T22, .ref T23, .ref T24, .ref T25, .ref T26, .ref T27, .ref T28, .ref T29, .ref T30, .ref T31] c2) :: (T20, pairO 0 w0 (.int y0 ty0)) :: (T21, pairO 1 w1 (.int y1 ty1)) :: (T22, pairO 2 w2 (.int y2 ty2)) :: (T23, pairO 3 w3 (.int y3 ty3)) :: (T24, pairO 4 w4 (.int y4 ty4)) :: (T25, pairO 5 w5 (.int y5 ty5)) :: (T26, pairO 6 w6 (.int y6 ty6)) :: (T27, pairO 7 w7 (.int y7 ty7)) :: (T28, pairO 8 w8 (.int y8 ty8)) :: (T29, pairO 9 w9 (.int y9 ty9)) :: (T30, pairO 10 w10 (.int y10 ty10)) :: (T31, pairO 11 w11 (.int y11 ty11)) :: (L' + 1 + 1, o1) :: (L' + 1, o2) :: (65, tabO ps) :: rest := by
    intro j v h
    match j, h with
    | 0, h => exact ⟨by decide, T20, w0, ty0, (Option.some.inj h).symm, by k_mem⟩
    | 1, h => exact ⟨by decide, T21, w1, ty1, (Option.some.inj h).symm, by k_mem⟩
    | 2, h => exact ⟨by decide, T22, w2, ty2, (Option.some.inj h).symm, by k_mem⟩
    | 3, h => exact ⟨by decide, T23, w3, ty3, (Option.some.inj h).symm, by k_mem⟩
    | 4, h => exact ⟨by decide, T24, w4, ty4, (Option.some.inj h).symm, by k_mem⟩
    | 5, h => exact ⟨by decide, T25, w5, ty5, (Option.some.inj h).symm, by k_mem⟩
    | 6, h => exact ⟨by decide, T26, w6, ty6, (Option.some.inj h).symm, by k_mem⟩
    | 7, h => exact ⟨by decide, T27, w7, ty7, (Option.some.inj h).symm, by k_mem⟩
    | 8, h => exact ⟨by decide, T28, w8, ty8, (Option.some.inj h).symm, by k_mem⟩
    | 9, h => exact ⟨by decide, T29, w9, ty9, (Option.some.inj h).symm, by k_mem⟩
    | 10, h => exact ⟨by decide, T30, w10, ty10, (Option.some.inj h).symm, by k_mem⟩
    | 11, h => exact ⟨by decide, T31, w11, ty11, (Option.some.inj h).symm, by k_mem⟩
    | n + 12, h => simp at h
  have mS2 : (S2, listOf #[.ref T20, .ref T21, .ref T22, .ref T23, .ref T24, .ref T25, .ref T26, .ref T27, .ref T28, .ref T29, .ref T30, .ref T31] c2) ∈ (S2, listOf #[.ref T20, .ref T21, .ref T22, .ref T23, .ref T24, .ref T25, .ref T26, .ref T27, .ref T28, .ref T29, .ref T30, .ref T31] c2) :: (T20, pairO 0 w0 (.int y0 ty0)) :: (T21, pairO 1 w1 (.int y1 ty1)) :: (T22, pairO 2 w2 (.int y2 ty2)) :: (T23, pairO 3 w3 (.int y3 ty3)) :: (T24, pairO 4 w4 (.int y4 ty4)) :: (T25, pairO 5 w5 (.int y5 ty5)) :: (T26, pairO 6 w6 (.int y6 ty6)) :: (T27, pairO 7 w7 (.int y7 ty7)) :: (T28, pairO 8 w8 (.int y8 ty8)) :: (T29, pairO 9 w9 (.int y9 ty9)) :: (T30, pairO 10 w10 (.int y10 ty10)) :: (T31, pairO 11 w11 (.int y11 ty11)) :: (L' + 1 + 1, o1) :: (L' + 1, o2) :: (65, tabO ps) :: rest := by k_mem
  have mo1 : (L' + 1 + 1, o1) ∈ (S2, listOf #[.ref T20, .ref T21, .ref T22, .ref T23, .ref T24, .ref T25, .ref T26, .ref T27, .ref T28, .ref T29, .ref T30, .ref T31] c2) :: (T20, pairO 0 w0 (.int y0 ty0)) :: (T21, pairO 1 w1 (.int y1 ty1)) :: (T22, pairO 2 w2 (.int y2 ty2)) :: (T23, pairO 3 w3 (.int y3 ty3)) :: (T24, pairO 4 w4 (.int y4 ty4)) :: (T25, pairO 5 w5 (.int y5 ty5)) :: (T26, pairO 6 w6 (.int y6 ty6)) :: (T27, pairO 7 w7 (.int y7 ty7)) :: (T28, pairO 8 w8 (.int y8 ty8)) :: (T29, pairO 9 w9 (.int y9 ty9)) :: (T30, pairO 10 w10 (.int y10 ty10)) :: (T31, pairO 11 w11 (.int y11 ty11)) :: (L' + 1 + 1, o1) :: (L' + 1, o2) :: (65, tabO ps) :: rest := by k_mem
  have mo2 : (L' + 1, o2) ∈ (S2, listOf #[.ref T20, .ref T21, .ref T22, .ref T23, .ref T24, .ref T25, .ref T26, .ref T27, .ref T28, .ref T29, .ref T30, .ref T31] c2) :: (T20, pairO 0 w0 (.int y0 ty0)) :: (T21, pairO 1 w1 (.int y1 ty1)) :: (T22, pairO 2 w2 (.int y2 ty2)) :: (T23, pairO 3 w3 (.int y3 ty3)) :: (T24, pairO 4 w4 (.int y4 ty4)) :: (T25, pairO 5 w5 (.int y5 ty5)) :: (T26, pairO 6 w6 (.int y6 ty6)) :: (T27, pairO 7 w7 (.int y7 ty7)) :: (T28, pairO 8 w8 (.int y8 ty8)) :: (T29, pairO 9 w9 (.int y9 ty9)) :: (T30, pairO 10 w10 (.int y10 ty10)) :: (T31, pairO 11 w11 (.int y11 ty11)) :: (L' + 1 + 1, o1) :: (L' + 1, o2) :: (65, tabO ps) :: rest := by k_mem
  have m65 : (65, tabO ps) ∈ (S2, listOf #[.ref T20, .ref T21, .ref T22, .ref T23, .ref T24, .ref T25, .ref T26, .ref T27, .ref T28, .ref T29, .ref T30, .ref T31] c2) :: (T20, pairO 0 w0 (.int y0 ty0)) :: (T21, pairO 1 w1 (.int y1 ty1)) :: (T22, pairO 2 w2 (.int y2 ty2)) :: (T23, pairO 3 w3 (.int y3 ty3)) :: (T24, pairO 4 w4 (.int y4 ty4)) :: (T25, pairO 5 w5 (.int y5 ty5)) :: (T26, pairO 6 w6 (.int y6 ty6)) :: (T27, pairO 7 w7 (.int y7 ty7)) :: (T28, pairO 8 w8 (.int y8 ty8)) :: (T29, pairO 9 w9 (.int y9 ty9)) :: (T30, pairO 10 w10 (.int y10 ty10)) :: (T31, pairO 11 w11 (.int y11 ty11)) :: (L' + 1 + 1, o1) :: (L' + 1, o2) :: (65, tabO ps) :: rest := by k_mem
  have mrest : ∀ q ∈ rest, q ∈ (S2, listOf #[.ref T20, .ref T21, .ref T22, .ref T23, .ref T24, .ref T25, .ref T26, .ref T27, .ref T28, .ref T29, .ref T30, .ref T31] c2) :: (T20, pairO 0 w0 (.int y0 ty0)) :: (T21, pairO 1 w1 (.int y1 ty1)) :: (T22, pairO 2 w2 (.int y2 ty2)) :: (T23, pairO 3 w3 (.int y3 ty3)) :: (T24, pairO 4 w4 (.int y4 ty4)) :: (T25, pairO 5 w5 (.int y5 ty5)) :: (T26, pairO 6 w6 (.int y6 ty6)) :: (T27, pairO 7 w7 (.int y7 ty7)) :: (T28, pairO 8 w8 (.int y8 ty8)) :: (T29, pairO 9 w9 (.int y9 ty9)) :: (T30, pairO 10 w10 (.int y10 ty10)) :: (T31, pairO 11 w11 (.int y11 ty11)) :: (L' + 1 + 1, o1) :: (L' + 1, o2) :: (65, tabO ps) :: rest := fun q hq => by repeat (first | exact hq | refine List.Mem.tail _ ?_)
  have n0 : (x, instObj 177 dx) ∈ (S2, listOf #[.ref T20, .ref T21, .ref T22, .ref T23, .ref T24, .ref T25, .ref T26, .ref T27, .ref T28, .ref T29, .ref T30, .ref T31] c2) :: (T20, pairO 0 w0 (.int y0 ty0)) :: (T21, pairO 1 w1 (.int y1 ty1)) :: (T22, pairO 2 w2 (.int y2 ty2)) :: (T23, pairO 3 w3 (.int y3 ty3)) :: (T24, pairO 4 w4 (.int y4 ty4)) :: (T25, pairO 5 w5 (.int y5 ty5)) :: (T26, pairO 6 w6 (.int y6 ty6)) :: (T27, pairO 7 w7 (.int y7 ty7)) :: (T28, pairO 8 w8 (.int y8 ty8)) :: (T29, pairO 9 w9 (.int y9 ty9)) :: (T30, pairO 10 w10 (.int y10 ty10)) :: (T31, pairO 11 w11 (.int y11 ty11)) :: (L' + 1 + 1, o1) :: (L' + 1, o2) :: (65, tabO ps) :: rest := mrest _ m0
  have n1 : (dx, fqD w kx1 kx2 kx3 kx4 kx5 P tkP mcx Dx 39 12 tkdx) ∈ (S2, listOf #[.ref T20, .ref T21, .ref T22, .ref T23, .ref T24, .ref T25, .ref T26, .ref T27, .ref T28, .ref T29, .ref T30, .ref T31] c2) :: (T20, pairO 0 w0 (.int y0 ty0)) :: (T21, pairO 1 w1 (.int y1 ty1)) :: (T22, pairO 2 w2 (.int y2 ty2)) :: (T23, pairO 3 w3 (.int y3 ty3)) :: (T24, pairO 4 w4 (.int y4 ty4)) :: (T25, pairO 5 w5 (.int y5 ty5)) :: (T26, pairO 6 w6 (.int y6 ty6)) :: (T27, pairO 7 w7 (.int y7 ty7)) :: (T28, pairO 8 w8 (.int y8 ty8)) :: (T29, pairO 9 w9 (.int y9 ty9)) :: (T30, pairO 10 w10 (.int y10 ty10)) :: (T31, pairO 11 w11 (.int y11 ty11)) :: (L' + 1 + 1, o1) :: (L' + 1, o2) :: (65, tabO ps) :: rest := mrest _ m1
  have n2 : (Dx, tupO [.int x0 tx0, .int x1 tx1, .int x2 tx2, .int x3 tx3, .int x4 tx4, .int x5 tx5, .int x6 tx6, .int x7 tx7, .int x8 tx8, .int x9 tx9, .int x10 tx10, .int x11 tx11]) ∈ (S2, listOf #[.ref T20, .ref T21, .ref T22, .ref T23, .ref T24, .ref T25, .ref T26, .ref T27, .ref T28, .ref T29, .ref T30, .ref T31] c2) :: (T20, pairO 0 w0 (.int y0 ty0)) :: (T21, pairO 1 w1 (.int y1 ty1)) :: (T22, pairO 2 w2 (.int y2 ty2)) :: (T23, pairO 3 w3 (.int y3 ty3)) :: (T24, pairO 4 w4 (.int y4 ty4)) :: (T25, pairO 5 w5 (.int y5 ty5)) :: (T26, pairO 6 w6 (.int y6 ty6)) :: (T27, pairO 7 w7 (.int y7 ty7)) :: (T28, pairO 8 w8 (.int y8 ty8)) :: (T29, pairO 9 w9 (.int y9 ty9)) :: (T30, pairO 10 w10 (.int y10 ty10)) :: (T31, pairO 11 w11 (.int y11 ty11)) :: (L' + 1 + 1, o1) :: (L' + 1, o2) :: (65, tabO ps) :: rest := mrest _ m2
  have n3 : (mcx, lst [.ref T0x, .ref T6x]) ∈ (S2, listOf #[.ref T20, .ref T21, .ref T22, .ref T23, .ref T24, .ref T25, .ref T26, .ref T27, .ref T28, .ref T29, .ref T30, .ref T31] c2) :: (T20, pairO 0 w0 (.int y0 ty0)) :: (T21, pairO 1 w1 (.int y1 ty1)) :: (T22, pairO 2 w2 (.int y2 ty2)) :: (T23, pairO 3 w3 (.int y3 ty3)) :: (T24, pairO 4 w4 (.int y4 ty4)) :: (T25, pairO 5 w5 (.int y5 ty5)) :: (T26, pairO 6 w6 (.int y6 ty6)) :: (T27, pairO 7 w7 (.int y7 ty7)) :: (T28, pairO 8 w8 (.int y8 ty8)) :: (T29, pairO 9 w9 (.int y9 ty9)) :: (T30, pairO 10 w10 (.int y10 ty10)) :: (T31, pairO 11 w11 (.int y11 ty11)) :: (L' + 1 + 1, o1) :: (L' + 1, o2) :: (65, tabO ps) :: rest := mrest _ m3
  have n4 : (T0x, pairO 0 u0x (.int 82 233)) ∈ (S2, listOf #[.ref T20, .ref T21, .ref T22, .ref T23, .ref T24, .ref T25, .ref T26, .ref T27, .ref T28, .ref T29, .ref T30, .ref T31] c2) :: (T20, pairO 0 w0 (.int y0 ty0)) :: (T21, pairO 1 w1 (.int y1 ty1)) :: (T22, pairO 2 w2 (.int y2 ty2)) :: (T23, pairO 3 w3 (.int y3 ty3)) :: (T24, pairO 4 w4 (.int y4 ty4)) :: (T25, pairO 5 w5 (.int y5 ty5)) :: (T26, pairO 6 w6 (.int y6 ty6)) :: (T27, pairO 7 w7 (.int y7 ty7)) :: (T28, pairO 8 w8 (.int y8 ty8)) :: (T29, pairO 9 w9 (.int y9 ty9)) :: (T30, pairO 10 w10 (.int y10 ty10)) :: (T31, pairO 11 w11 (.int y11 ty11)) :: (L' + 1 + 1, o1) :: (L' + 1, o2) :: (65, tabO ps) :: rest := mrest _ m4
  have n5 : (T6x, pairO 6 u6x (.int (-18) 240)) ∈ (S2, listOf #[.ref T20, .ref T21, .ref T22, .ref T23, .ref T24, .ref T25, .ref T26, .ref T27, .ref T28, .ref T29, .ref T30, .ref T31] c2) :: (T20, pairO 0 w0 (.int y0 ty0)) :: (T21, pairO 1 w1 (.int y1 ty1)) :: (T22, pairO 2 w2 (.int y2 ty2)) :: (T23, pairO 3 w3 (.int y3 ty3)) :: (T24, pairO 4 w4 (.int y4 ty4)) :: (T25, pairO 5 w5 (.int y5 ty5)) :: (T26, pairO 6 w6 (.int y6 ty6)) :: (T27, pairO 7 w7 (.int y7 ty7)) :: (T28, pairO 8 w8 (.int y8 ty8)) :: (T29, pairO 9 w9 (.int y9 ty9)) :: (T30, pairO 10 w10 (.int y10 ty10)) :: (T31, pairO 11 w11 (.int y11 ty11)) :: (L' + 1 + 1, o1) :: (L' + 1, o2) :: (65, tabO ps) :: rest := mrest _ m5
  have n6 : (y, instObj 177 dy) ∈ (S2, listOf #[.ref T20, .ref T21, .ref T22, .ref T23, .ref T24, .ref T25, .ref T26, .ref T27, .ref T28, .ref T29, .ref T30, .ref T31] c2) :: (T20, pairO 0 w0 (.int y0 ty0)) :: (T21, pairO 1 w1 (.int y1 ty1)) :: (T22, pairO 2 w2 (.int y2 ty2)) :: (T23, pairO 3 w3 (.int y3 ty3)) :: (T24, pairO 4 w4 (.int y4 ty4)) :: (T25, pairO 5 w5 (.int y5 ty5)) :: (T26, pairO 6 w6 (.int y6 ty6)) :: (T27, pairO 7 w7 (.int y7 ty7)) :: (T28, pairO 8 w8 (.int y8 ty8)) :: (T29, pairO 9 w9 (.int y9 ty9)) :: (T30, pairO 10 w10 (.int y10 ty10)) :: (T31, pairO 11 w11 (.int y11 ty11)) :: (L' + 1 + 1, o1) :: (L' + 1, o2) :: (65, tabO ps) :: rest := mrest _ m6
  have n7 : (dy, fqD w ky1 ky2 ky3 ky4 ky5 P tkP mcy Dy 39 12 tkdy) ∈ (S2, listOf #[.ref T20, .ref T21, .ref T22, .ref T23, .ref T24, .ref T25, .ref T26, .ref T27, .ref T28, .ref T29, .ref T30, .ref T31] c2) :: (T20, pairO 0 w0 (.int y0 ty0)) :: (T21, pairO 1 w1 (.int y1 ty1)) :: (T22, pairO 2 w2 (.int y2 ty2)) :: (T23, pairO 3 w3 (.int y3 ty3)) :: (T24, pairO 4 w4 (.int y4 ty4)) :: (T25, pairO 5 w5 (.int y5 ty5)) :: (T26, pairO 6 w6 (.int y6 ty6)) :: (T27, pairO 7 w7 (.int y7 ty7)) :: (T28, pairO 8 w8 (.int y8 ty8)) :: (T29, pairO 9 w9 (.int y9 ty9)) :: (T30, pairO 10 w10 (.int y10 ty10)) :: (T31, pairO 11 w11 (.int y11 ty11)) :: (L' + 1 + 1, o1) :: (L' + 1, o2) :: (65, tabO ps) :: rest := mrest _ m7
  have n8 : (Dy, tupO [.int y0 ty0, .int y1 ty1, .int y2 ty2, .int y3 ty3, .int y4 ty4, .int y5 ty5, .int y6 ty6, .int y7 ty7, .int y8 ty8, .int y9 ty9, .int y10 ty10, .int y11 ty11]) ∈ (S2, listOf #[.ref T20, .ref T21, .ref T22, .ref T23, .ref T24, .ref T25, .ref T26, .ref T27, .ref T28, .ref T29, .ref T30, .ref T31] c2) :: (T20, pairO 0 w0 (.int y0 ty0)) :: (T21, pairO 1 w1 (.int y1 ty1)) :: (T22, pairO 2 w2 (.int y2 ty2)) :: (T23, pairO 3 w3 (.int y3 ty3)) :: (T24, pairO 4 w4 (.int y4 ty4)) :: (T25, pairO 5 w5 (.int y5 ty5)) :: (T26, pairO 6 w6 (.int y6 ty6)) :: (T27, pairO 7 w7 (.int y7 ty7)) :: (T28, pairO 8 w8 (.int y8 ty8)) :: (T29, pairO 9 w9 (.int y9 ty9)) :: (T30, pairO 10 w10 (.int y10 ty10)) :: (T31, pairO 11 w11 (.int y11 ty11)) :: (L' + 1 + 1, o1) :: (L' + 1, o2) :: (65, tabO ps) :: rest := mrest _ m8
  generalize hR : (S2, listOf #[.ref T20, .ref T21, .ref T22, .ref T23, .ref T24, .ref T25, .ref T26, .ref T27, .ref T28, .ref T29, .ref T30, .ref T31] c2) :: (T20, pairO 0 w0 (.int y0 ty0)) :: (T21, pairO 1 w1 (.int y1 ty1)) :: (T22, pairO 2 w2 (.int y2 ty2)) :: (T23, pairO 3 w3 (.int y3 ty3)) :: (T24, pairO 4 w4 (.int y4 ty4)) :: (T25, pairO 5 w5 (.int y5 ty5)) :: (T26, pairO 6 w6 (.int y6 ty6)) :: (T27, pairO 7 w7 (.int y7 ty7)) :: (T28, pairO 8 w8 (.int y8 ty8)) :: (T29, pairO 9 w9 (.int y9 ty9)) :: (T30, pairO 10 w10 (.int y10 ty10)) :: (T31, pairO 11 w11 (.int y11 ty11)) :: (L' + 1 + 1, o1) :: (L' + 1, o2) :: (65, tabO ps) :: rest = R at N9 hoff hP2 mS2 mo1 mo2 m65 mrest n0 n1 n2 n3 n4 n5 n6 n7 n8
  clear hR
  have hy' := fun j => getD01 hy j
  generalize hYs : ([y0, y1, y2, y3, y4, y5, y6, y7, y8, y9, y10, y11] : List Int) = ys at hP2 hy'
  generalize hXs' : ([x0, x1, x2, x3, x4, x5, x6, x7, x8, x9, x10, x11] : List Int) = xs at hXs
  walk1
  with_unfolding_all refine' For_turns FF ?_
  k_whole
  k_steps
  k_dflt (refine' Mine.turnsEnum ?hh ?F ?N ?hm ?_; (case hh => rfl); (case F => k_asm); (case N => exact N9); (case hm => k_mem))
  intro I3 hI3
  refine itemsInvM FF (fun M i m₁ n₁ => ∃ (v1 v2 v3 v4 : Option Value) (bv : List Value), m₁ = (fun z => if z = Str.ofString "elj" then v1 else if z = Str.ofString "j" then v2 else if z = Str.ofString "eli" then v3 else if z = Str.ofString "i" then v4 else M z) ∧ IntsAre bv (convO xs ys i) ∧ n₁ = (D, listOf bv.toArray 0) :: R) ?step ?done ?h0 ?hk
  case h0 => exact ⟨_, _, _, _, bv0, map4self.symm, iz0, rfl⟩
  case hk => exact ⟨by k_mem, trivial⟩
  case step =>
    intro i a9 m₁ news₁ ha hJ hk3 v h3 tk3 hv F3
    refine ex5 hJ (fun v1 v2 v3 v4 bv hh => ?_)
    have hbi := hh.2.1
    have em := hh.1
    have en := hh.2.2
    clear hh hJ
    subst em
    subst en
    have hq := enumIs hXs ha hv
    have hi12 := hq.1
    refine ex3 hq.2 (fun TT3 tt3 txx3 hh => ?_)
    have hT3 := hh.2
    have ev := hh.1
    clear hh hq
    subst ev
    rw [show xs.length = 12 by rw [← hXs']; rfl] at hi12
    generalize hxi : xs.getD i 0 = xi at hT3
    refine AllObj.cons (fun o3 hc3 => ?_)
    refine AllObj.cons (fun o4 hc4 => ?_)
    refine AllObj.nil (fun N3 => ?_)
    simp only [List.cons_append, List.nil_append] at N3
    replace F3 : Fr g' L' h3 _ := F3
    replace N3 : News g' L' h3 _ := N3
    k_steps
    rename Fr _ _ _ _ => F4
    rename News _ _ _ _ => N4
    have N4' := newsSub N4 (news' := (D, listOf bv.toArray 0) :: (I3 + 1, o3) :: (I3, o4) :: R) (fun p hp => by
      rcases List.mem_cons.mp hp with rfl | hp
      · k_mem
      · rcases List.mem_cons.mp hp with rfl | hp
        · k_mem
        · rcases List.mem_cons.mp hp with rfl | hp
          · k_mem
          · exact List.mem_cons_of_mem _ (List.mem_cons_of_mem _ (List.mem_cons_of_mem _ hp)))
    have hDI3 : @LT.lt Nat _ D I3 := hI3 (D, _) List.mem_cons_self
    have hoff3 : ∀ p ∈ (I3 + 1, o3) :: (I3, o4) :: R, p.1 ≠ D := by
      refine List.forall_mem_cons.mpr ⟨(by dsimp only; refine neN ?_; omega), ?_⟩
      refine List.forall_mem_cons.mpr ⟨(by dsimp only; refine neN ?_; omega), ?_⟩
      exact hoff
    clear N4
    walk1
    with_unfolding_all refine' For_turns F4 ?_
    k_whole
    k_steps
    refine iter_listTurns (lo := listOf #[.ref T20, .ref T21, .ref T22, .ref T23, .ref T24, .ref T25, .ref T26, .ref T27, .ref T28, .ref T29, .ref T30, .ref T31] c2) (vs := [.ref T20, .ref T21, .ref T22, .ref T23, .ref T24, .ref T25, .ref T26, .ref T27, .ref T28, .ref T29, .ref T30, .ref T31]) (by rfl) F4 N4' (by k_mem) (by rfl) (by rfl) (fun I4 hI4 => ?_)
    refine itemsInvM F4 (fun M j m₁ n₁ => ∃ (v1 v2 : Option Value) (bv : List Value), m₁ = (fun z => if z = Str.ofString "elj" then v1 else if z = Str.ofString "j" then v2 else M z) ∧ IntsAre bv (convI xi ys i (convO xs ys i) j) ∧ n₁ = (D, listOf bv.toArray 0) :: (I3 + 1, o3) :: (I3, o4) :: R) ?step2 ?done2 ?h02 ?hk2
    case h02 => exact ⟨_, _, bv, map2self.symm, hbi, rfl⟩
    case hk2 => exact ⟨by k_mem, trivial⟩
    case step2 =>
      intro j a8 mm₁ nnews₁ ha8 hJ8 hk8 v8 h5 tk5 hv8 F5
      refine ex3 hJ8 (fun v1' v2' bw hh => ?_)
      have hbw := hh.2.1
      have em := hh.1
      have en := hh.2.2
      clear hh hJ8
      subst em
      subst en
      have hq := hP2 j v8 (valIs ha8 hv8)
      have hj12 := hq.1
      refine ex3 hq.2 (fun TT5 ww5 tt5 hh => ?_)
      have hm5 := hh.2
      have ev := hh.1
      clear hh hq
      subst ev
      refine AllObj.cons (fun o5 hc5 => ?_)
      refine AllObj.nil (fun N5 => ?_)
      simp only [List.cons_append, List.nil_append] at N5
      replace F5 : Fr g' L' h5 _ := F5
      replace N5 : News g' L' h5 _ := N5
      have hT5 : IsTup h5 TT5 #[.int (j : Nat) ww5, .int (ys.getD j 0) tt5] := ⟨_, (N5 _ (List.mem_cons_of_mem _ (List.mem_cons_of_mem _ (List.mem_cons_of_mem _ (List.mem_cons_of_mem _ hm5))))).1, rfl, _, rfl⟩
      have hyj := hy' j
      have hlen : (convI xi ys i (convO xs ys i) j).length = 23 := by rw [len_convI, len_convO]
      have hDI4 : @LT.lt Nat _ D I4 := hI4 (D, _) List.mem_cons_self
      have hoff5 : ∀ p ∈ (I4, o5) :: (I3 + 1, o3) :: (I3, o4) :: R, p.1 ≠ D := by
        refine List.forall_mem_cons.mpr ⟨(by dsimp only; refine neN ?_; omega), ?_⟩
        exact hoff3
      generalize hcur : convI xi ys i (convO xs ys i) j = cur at hbw hlen
      generalize hyj' : ys.getD j 0 = yj at hT5 hyj
      clear hoff hoff3 hP2 hXs hI3 hy' hm5
      have hyj0 := hyj.1
      have hyj1 := hyj.2
      clear hyj
      refine absQ (P := fun Q' => wpAny _ _ _ Q' _ _) (fun Qa hQa => ?_)
      k_steps
      refine hQa _ _ ?_
      clear hQa
      (try dsimp only)
      refine absQ (P := fun Q' => wpAny _ _ _ Q' _ _) (fun Qb hQb => ?_)
      k_steps
      refine hQb _ _ ?_
      (try dsimp only)
      rename Fr _ _ _ _ => F6
      rename News _ _ _ _ => N6
      rename IntsAre _ _ => i6
      dsimp only [UnrPostW]
      refine endD F6 N6 ?a6 ?b6 ⟨⟨by k_mem, trivial⟩, _, _, _, map2, ?f6, rfl⟩
      case a6 => exact List.forall_mem_cons.mpr ⟨Nat.ne_of_lt hDI4, List.forall_mem_nil _⟩
      case b6 => exact fun p hp => List.forall_mem_cons.mpr ⟨Nat.ne_of_lt (hI4 p (List.mem_cons_of_mem _ hp)), List.forall_mem_nil _⟩
      case f6 =>
        show IntsAre _ (addAt (convI xi ys i (convO xs ys i) j) (i + j) (xi * ys.getD j 0))
        rw [hcur, hyj']
        have e : ((i : Int) + (j : Int)).toNat = i + j := by omega
        rw [← e]
        exact i6
    case done2 =>
      intro mm₁ nnews₁ h7 tk7 hJ7 F7 N7
      refine ex3 hJ7 (fun v1' v2' bw hh => ?_)
      have hbw := hh.2.1
      have em := hh.1
      have en := hh.2.2
      clear hh hJ7
      subst em
      subst en
      k_steps
      rename Fr _ _ _ _ => F8
      rename News _ _ _ _ => N8
      dsimp only [UnrPostW]
      refine' endW F8 N8 ((D, listOf bw.toArray 0) :: R) ?a8 ?b8 ?c8 ⟨⟨?g8, trivial⟩, _, _, _, _, bw, ?e8, ?f8, rfl⟩
      case b8 =>
        refine List.forall_mem_cons.mpr ⟨List.mem_cons_self, ?_⟩
        exact fun q hq => List.mem_cons_of_mem _ (List.mem_cons_of_mem _ (List.mem_cons_of_mem _ hq))
      case g8 => k_mem
      case e8 => exact map4
      case f8 =>
        show IntsAre _ (convI (xs.getD i 0) ys i (convO xs ys i) 12)
        rw [hxi]
        exact hbw
      case a8 => exact List.forall_mem_cons.mpr ⟨by k_mem, List.forall_mem_cons.mpr ⟨by k_mem, List.forall_mem_nil _⟩⟩
      case c8 =>
        intro p hp q hq
        have hlt : p.1 < I3 := by
          rcases List.mem_cons.mp hp with rfl | hp
          · exact hDI3
          · exact hI3 p (List.mem_cons_of_mem _ hp)
        rcases List.mem_cons.mp hq with rfl | hq
        · exact Nat.ne_of_lt (Nat.lt_succ_of_lt hlt)
        · obtain rfl := List.mem_singleton.mp hq
          exact Nat.ne_of_lt hlt
  case done =>
    intro mm₁ nnews₁ h7 tk7 hJ7 F7 N7
    refine ex5 hJ7 (fun v1' v2' v3' v4' bw hh => ?_)
    have hbw := hh.2.1
    have em := hh.1
    have en := hh.2.2
    clear hh hJ7
    subst em
    subst en
    replace F7 : Fr g' L' h7 _ := F7
    replace N7 : News g' L' h7 _ := N7
    k_steps
    dsimp only
    rename Fr _ _ _ _ => F8
    rename News _ _ _ _ => N8
    clear hXs
    walk1
    with_unfolding_all refine' For_invVF F8 ?k1 ?k2 ?_
    case k1 => exact rfl
    case k2 => exact rfl
    k_whole
    k_steps
    rename Fr _ _ _ _ => F9
    rename News _ _ _ _ => N9'
    rename IsRange _ _ _ _ _ _ _ _ => hr9
    have N9q := newsSub N9' (news' := (D, listOf bw.toArray 0) :: R) (by first | exact fun q hq => hq | exact fun q hq => List.mem_cons_of_mem _ hq)
    refine krs_iter (n := 11) (by rfl) hr9 (by decide) (by rfl) F9 N9q (fun I8 hI8 => ?_)
    have hP3 : ∀ (j : Nat) (v : Value), ([.ref T0x, .ref T6x] : List Value)[j]? = some v → j < 2 ∧ (([0, 6] : List Nat).getD j 0 ≤ 6) ∧ (-18 ≤ ([82, -18] : List Int).getD j 0 ∧ ([82, -18] : List Int).getD j 0 ≤ 82) ∧ ∃ (T : Addr) (wt t : Tok), v = .ref T ∧ (T, pairO (([0, 6] : List Nat).getD j 0 : Nat) wt (.int (([82, -18] : List Int).getD j 0) t)) ∈ R := by
      intro j v h
      match j, h with
      | 0, h => exact ⟨by decide, by decide, by decide, T0x, u0x, 233, (Option.some.inj h).symm, by k_mem⟩
      | 1, h => exact ⟨by decide, by decide, by decide, T6x, u6x, 240, (Option.some.inj h).symm, by k_mem⟩
      | n + 2, h => simp at h
    replace hbw : IntsAre bw (convO xs ys 12) := hbw
    have hB := len_convO xs ys 12
    generalize hBdef : convO xs ys 12 = BB at hbw hB
    replace hBdef : Keep (convO xs ys 12 = BB) := ⟨hBdef⟩
    refine krsInvM F9 (fun M i m₁ n₁ => ∃ (v1 v2 v3 v4 : Option Value) (bv : List Value), m₁ = (fun z => if z = Str.ofString "c" then v1 else if z = Str.ofString "i" then v2 else if z = Str.ofString "top" then v3 else if z = Str.ofString "exp" then v4 else M z) ∧ IntsAre bv (redI BB i) ∧ n₁ = (D, listOf bv.toArray i) :: R) ?step3 ?done3 ?h03
    case h03 => exact ⟨_, _, _, _, bw, map4self.symm, hbw, rfl⟩
    case step3 =>
      intro i mmm₁ nnn₁ t9 h9 tk9 hi11 hJ9 F10 N10
      refine ex5 hJ9 (fun x1' x2' x3' x4' bx hh => ?_)
      have hbx := hh.2.1
      have em := hh.1
      have en := hh.2.2
      clear hh hJ9
      subst em
      subst en
      have hlen9 := len_redI BB hB i
      have hDI8 : @LT.lt Nat _ D I8 := hI8 (D, _) List.mem_cons_self
      have hoff9 := offAdd N10 hDI8 hoff
      generalize hcur9 : redI BB i = cur9 at hbx hlen9
      replace hcur9 : Keep (redI BB i = cur9) := ⟨hcur9⟩
      k_steps
      dsimp only
      rename Fr _ _ _ _ => F11
      rename News _ _ _ _ => N11
      rename IntsAre _ _ => i11
      repeat ((with_reducible show wpAny _ _ (execs _ _) _ _ _); walk1)
      with_unfolding_all refine' For_turns F11 ?_
      k_whole
      k_steps
      rename Fr _ _ _ _ => F12
      refine iter_listTurns (lo := lst [.ref T0x, .ref T6x]) (vs := [.ref T0x, .ref T6x]) (by rfl) F12 N11 (by k_mem) (by rfl) (by rfl) (fun I9 hI9 => ?_)
      refine itemsInvM F12 (fun M j m₁ n₁ => ∃ (v1 v2 : Option Value) (bv : List Value), m₁ = (fun z => if z = Str.ofString "c" then v1 else if z = Str.ofString "i" then v2 else M z) ∧ IntsAre bv (redJ (cur9.getLastD 0) (10 - i) cur9.dropLast j) ∧ n₁ = (D, listOf bv.toArray (i + 1)) :: (I8, krsIt (12 - 2 + ((i + 1 : Nat) : Int) * (-1)) (((11 : Nat) : Int) - ((i + 1 : Nat) : Int)) (-1)) :: R) ?step4 ?done4 ?h04 ?hk4
      case h04 => exact ⟨_, _, _, map2self.symm, i11, rfl⟩
      case hk4 => exact ⟨by k_mem, trivial⟩
      case step4 =>
        intro j a8 q1 q2 ha8 hJ8 hk8 v8 h5 tk5 hv8 F5
        refine ex3 hJ8 (fun v1' v2' bz hh => ?_)
        have hbz := hh.2.1
        have em := hh.1
        have en := hh.2.2
        clear hh hJ8
        subst em
        subst en
        have hq := hP3 j v8 (valIs ha8 hv8)
        have hj2 := hq.1
        have hkk := hq.2.1
        have hcc := hq.2.2.1
        refine ex3 hq.2.2.2 (fun TT5 ww5 tt5 hh => ?_)
        have hm5 := hh.2
        have ev := hh.1
        clear hh hq
        subst ev
        refine AllObj.cons (fun o5 hc5 => ?_)
        refine AllObj.nil (fun N5 => ?_)
        simp only [List.cons_append, List.nil_append] at N5
        replace F5 : Fr g' L' h5 _ := F5
        replace N5 : News g' L' h5 _ := N5
        have hT5 : IsTup h5 TT5 #[.int (([0, 6] : List Nat).getD j 0 : Nat) ww5, .int (([82, -18] : List Int).getD j 0) tt5] := ⟨_, (N5 _ (List.mem_cons_of_mem _ (List.mem_cons_of_mem _ (List.mem_cons_of_mem _ hm5)))).1, rfl, _, rfl⟩
        have hlenz : (redJ (cur9.getLastD 0) (10 - i) cur9.dropLast j).length = 22 - i := by rw [len_redJ, List.length_dropLast, hlen9]; omega
        have hDI9 : @LT.lt Nat _ D I9 := hI9 (D, _) List.mem_cons_self
        have hoffz := offAdd N5 hDI9 hoff9
        generalize hcurz : redJ (cur9.getLastD 0) (10 - i) cur9.dropLast j = curz at hbz hlenz
        replace hcurz : Keep (redJ (cur9.getLastD 0) (10 - i) cur9.dropLast j = curz) := ⟨hcurz⟩
        generalize hkk' : ([0, 6] : List Nat).getD j 0 = kk at hT5 hkk
        generalize hcc' : ([82, -18] : List Int).getD j 0 = cc at hT5 hcc
        have hcc0 := hcc.1
        have hcc1 := hcc.2
        clear hcc
        clear hP3 hm5 hoff hoff9
        refine absQ (P := fun Q' => wpAny _ _ _ Q' _ _) (fun Qa hQa => ?_)
        k_steps
        refine hQa _ _ ?_
        clear hQa
        (try dsimp only)
        refine absQ (P := fun Q' => wpAny _ _ _ Q' _ _) (fun Qb hQb => ?_)
        k_steps
        refine hQb _ _ ?_
        (try dsimp only)
        rename Fr _ _ _ _ => F13
        rename News _ _ _ _ => N13
        rename IntsAre _ _ => i13
        dsimp only [UnrPostW]
        refine endD F13 N13 ?a13 ?b13 ⟨⟨by k_mem, trivial⟩, _, _, _, map2, ?f13, rfl⟩
        case a13 => exact List.forall_mem_cons.mpr ⟨Nat.ne_of_lt hDI9, List.forall_mem_nil _⟩
        case b13 => exact fun p hp => List.forall_mem_cons.mpr ⟨Nat.ne_of_lt (hI9 p (List.mem_cons_of_mem _ hp)), List.forall_mem_nil _⟩
        case f13 =>
          show IntsAre _ (addAt (redJ (cur9.getLastD 0) (10 - i) cur9.dropLast j) (10 - i + ([0, 6] : List Nat).getD j 0) (-(cur9.getLastD 0 * ([82, -18] : List Int).getD j 0)))
          rw [hcurz.out, hkk', hcc']
          have e : ((12 : Int) - 2 + (i : Int) * (-1) + (kk : Int)).toNat = 10 - i + kk := by omega
          rw [e] at i13
          rw [Int.sub_eq_add_neg] at i13
          exact i13
      case done4 =>
        intro q1 q2 h7 tk7 hJ7 F7 N7
        refine ex3 hJ7 (fun v1' v2' bz hh => ?_)
        have hbz := hh.2.1
        have em := hh.1
        have en := hh.2.2
        clear hh hJ7
        subst em
        subst en
        k_steps
        dsimp only [UnrPost]
        rename Fr _ _ _ _ => F14
        rename News _ _ _ _ => N14
        refine endR F14 N14 (Nat.ne_of_lt hDI8) (fun p hp => Nat.ne_of_lt (hI8 p (List.mem_cons_of_mem _ hp))) ⟨_, _, _, _, _, map4, ?f14, rfl⟩
        case f14 =>
          show IntsAre _ (redJ ((redI BB i).getLastD 0) (10 - i) (redI BB i).dropLast 2)
          rw [hcur9.out]
          exact hbz
    case done3 =>
      intro q1 q2 h7 tk7 hJ7 F7 N7
      refine ex5 hJ7 (fun v1' v2' v3' v4' bz hh => ?_)
      have hbz := hh.2.1
      have em := hh.1
      have en := hh.2.2
      clear hh hJ7
      subst em
      subst en
      replace F7 : Fr g' L' h7 _ := F7
      replace N7 : News g' L' h7 _ := N7
      rw [← hBdef.out] at hbz
      replace hbz : IntsAre bz (mulL xs ys) := hbz
      have hr : mulL xs ys = [r0, r1, r2, r3, r4, r5, r6, r7, r8, r9, r10, r11] := by rw [← hXs', ← hYs]; exact hml.out
      rw [hr] at hbz
      refine ex12 (intsOpen12 hbz) (fun e0 e1 e2 e3 e4 e5 e6 e7 e8 e9 e10 e11 hh => ?_)
      subst hh
      clear hr
      have N15 := newsSub N7 (news' := (D, listOf #[.int r0 e0, .int r1 e1, .int r2 e2, .int r3 e3, .int r4 e4, .int r5 e5, .int r6 e6, .int r7 e7, .int r8 e8, .int r9 e9, .int r10 e10, .int r11 e11] 11) :: (L' + 1 + 1, o1) :: (L' + 1, o2) :: (65, tabO ps) :: rest) (by
    refine List.forall_mem_cons.mpr ⟨by k_mem, ?_⟩
    refine List.forall_mem_cons.mpr ⟨by k_mem, ?_⟩
    refine List.forall_mem_cons.mpr ⟨by k_mem, ?_⟩
    refine List.forall_mem_cons.mpr ⟨by k_mem, ?_⟩
    exact fun q hq => by repeat (first | exact hq | exact mrest _ hq | refine List.Mem.tail _ ?_))
      have hD65 : @Ne Nat D 65 := by refine neN ?_; omega
      clear N7 hbz hI8 hP3 hr9 hB hbw hI3 hP2 hS2 lI1 hI1 iz0 hDrest hDS hoff
      k_steps
      rename (News h₀ L _ _) => kN9
      simp only [fmFm] at kN9
      refine' hQ _ _ _ _ _ _ _ _ _ _ _ _ _ _ _ _ _ _ _ _ _ _ _ _ _ _ _ _ (by k_asm) (newsSub kN9 ?sub) (by assumption) (by assumption) (by assumption)
      case sub =>
        refine List.forall_mem_cons.mpr ⟨by k_mem, ?_⟩
        refine List.forall_mem_cons.mpr ⟨by k_mem, ?_⟩
        refine List.forall_mem_cons.mpr ⟨by k_mem, ?_⟩
        refine List.forall_mem_cons.mpr ⟨by k_mem, ?_⟩
        refine List.forall_mem_cons.mpr ⟨by k_mem, ?_⟩
        refine List.forall_mem_cons.mpr ⟨by k_mem, ?_⟩
        refine List.forall_mem_cons.mpr ⟨by k_mem, ?_⟩
        exact fun q hq => by repeat (first | exact hq | refine List.Mem.tail _ ?_)
end Mine

end

section
open PySem PySem.W PyProof.Rows PySem.Calls PyProof.Rows.LCg
set_option Elab.async false
namespace Mine
local macro_rules | `(tactic| k_mem) => `(tactic| assumption)
set_option maxRecDepth 100000 in
set_option maxHeartbeats 1500000 in
theorem image236 {prog : Program} {w : World} {p : Program} {loose : List Str} {mean : ExcName → Option Value} {mg mb : Str → Option Value}
   {dp un : Nat} {gd : Option (List Code)} {cn : Str} {cs : Scope} {a : Addr} {ccd : Value} {cl : List (Str × Addr)} {outer : List Env} {A₀ : Around} {base h₀ : Heap} {L : Addr} {m : Str → Option Value} {s : Shared} {Q E : Value → Shared → Prop}
   {pr : Addr} {ta tb tk ts tp : Tok} {x y k z P : Int} {news : List (Addr × Obj)} {ps : Array Value}
   (B : Below A₀ base outer h₀) (F : Fr h₀ L s.heap m) (X : (hd.heap_1 w.params).In h₀) (T : Top p loose mean mg mb h₀) (N0 : News h₀ L s.heap news)
   (mp : (pr, tupO [.int x ta, .int y tb]) ∈ news) (m65 : (65, tabO ps) ∈ news) (hk : cs.kind = .function) (k0 : 0 ≤ k) (k1 : k ≤ 3) (z0 : 0 ≤ z) (z1 : z ≤ 9)
   (hroom : dp + 12 < recursionLimit) (hP : 7 ≤ P)
   (hQ : ∀ (h' : Heap) (R : Addr) (vs : List Value) (n : Nat) (tk' : Nat), Fr h₀ L h' m → News h₀ L h' ((R, listOf vs.toArray n) :: news) → (∀ q ∈ news, q.1 < R) → IntsAre vs (((List.replicate (Int.toNat 12) [(0 : Int)]).flatten.set k.toNat ((x - z * y).fmod P)).set (k + 6).toNat (y.fmod P)) → Q (.ref R) { s with heap := h', toks := tk' }) :
   wpAny (model prog w) (ktrTop dp un gd cn cs L a ccd cl outer) (call (.ref 236) [.ref pr, .int k tk, .int z ts, .int P tp]) Q E s := by
  refine wpAny_call ?_
  k_dflt (refine' code_def ?k1 ?k2 ?k3 ?k4 ?k5 ?kA ?kF ?kK ?k6 ?k7 ?k8 ?k9 ?kB ?_ ?c2 ?c3 ?c4 ?c5; (case kA => exact rfl); (case kF => exact rfl); (case kK => assumption); (case k1 => k_asm); (case k2 => k_asm); (case k3 => k_asm); (case k4 => k_asm); (case k5 => k_asm); (case k6 => k_is); (case k7 => k_is); (case k8 => k_room); (case k9 => first | exact BindsTo.of_eq rfl | exact binds_K (by k_in) rfl (by k_is) rfl rfl rfl | fail "k_enter: no rule for these arguments"); (case c5 => decide); (case kB => exact locs rfl); (case c2 => exact rfl); (case c3 => exact rfl); (case c4 => exact rfl); k_whole)
  intro g' L' h' FG' F' N' B' X' T'
  (try dsimp only)
  (try k_lift B')
  (try k_fold)
  k_steps
  rename (News h₀ L _ _) => kN9
  refine' hQ _ _ _ _ _ (by k_asm) (newsSub kN9 ?sub) ?r65 (by assumption)
  case sub =>
    refine List.forall_mem_cons.mpr ⟨by k_mem, ?_⟩
    exact fun q hq => by repeat (first | exact hq | refine List.Mem.tail _ ?_)
  case r65 =>
    rename (∀ p : Addr × Obj, p ∈ news → _) => l9
    rename (_ ∧ AllLt _ news) => l8
    exact fun q hq => Nat.lt_trans (l9 q hq) l8.1
end Mine

end

section
local macro_rules | `(tactic| walk_at "call ref") => `(tactic| (k_here; (with_reducible show wpAny _ _ (call (.ref 206) [.ref _, .ref _, .int _ _]) _ _ _); k_dflt (refine' Mine.init2P ?B ?F ?X ?T ?N ?p1 ?hv ?p3 ?m2 ?hk ?hroom ?hG ?hos ?hP ?ht ?hl ?hm ?hr ?_); (case B | F | X | T | N => k_asm); (case p1 => repeat (first | exact Mine.Pick.head | apply Mine.Pick.tail)); (case hv => k_dflt (first | l_ints | assumption)); (case p3 => repeat (first | exact Mine.Pick.head | apply Mine.Pick.tail)); (case m2 => k_dflt k_mem); (case hk => rfl); (case hroom => k_room); (case hG | ht => assumption); (case hos => first | assumption | rfl); (case hP => omega); (case hl => first | decide | assumption | (refine neN ?_; omega)); (case hm => first | decide | assumption | (refine neN ?_; omega)); (case hr => tlg_ne); (intros; rename_i F' N' la' _ _ _ _ _ _ _ _ ht' hG' ho'; (try simp only [AllLt, and_true] at la'); (try dsimp only [List.getD_cons_zero, List.getD_cons_succ, Int.toNat_zero, Int.toNat_one, Int.toNat_ofNat] at N'); (try k_sweep))))
local macro_rules | `(tactic| walk_at "call ref") => `(tactic| (k_here; (with_reducible show wpAny _ _ (call (.ref 177) [.ref _, .ref 39, .int _ _]) _ _ _); k_dflt (refine' Mine.init39P ?B ?F ?X ?T ?N ?p1 ?hv ?p3 ?hk ?hroom ?hG ?hos ?hP ?ht ?hl ?hr ?_); (case B | F | X | T | N => k_asm); (case p1 => repeat (first | exact Mine.Pick.head | apply Mine.Pick.tail)); (case hv => k_dflt (first | l_ints | assumption)); (case p3 => repeat (first | exact Mine.Pick.head | apply Mine.Pick.tail)); (case hk => rfl); (case hroom => k_room); (case hG | ht => assumption); (case hos => first | assumption | rfl); (case hP => omega); (case hl => first | decide | assumption | (refine neN ?_; omega)); (case hr => tlg_ne); (intros; rename_i F' N' la' _ _ _ _ _ _ h65' hx' hxD' hxm' hxT' hxS' ht' hG' ho'; (try simp only [AllLt, and_true] at la'); (try dsimp only [List.getD_cons_zero, List.getD_cons_succ, Int.toNat_zero, Int.toNat_one, Int.toNat_ofNat] at N'); (try simp (disch := assumption) only [Mine.fmFm, Mine.fmZero, Mine.fmOne] at N'); (try k_sweep))))
local macro_rules | `(tactic| walk_at "call ref") => `(tactic| (k_here; (with_reducible show wpAny _ _ (call (.ref 177) [.ref _, .ref 42, .int _ _]) _ _ _); k_dflt (refine' Mine.init42P ?B ?F ?X ?T ?N ?p1 ?hv ?p3 ?hk ?hroom ?hG ?hos ?hP ?ht ?hl ?hr ?_); (case B | F | X | T | N => k_asm); (case p1 => repeat (first | exact Mine.Pick.head | apply Mine.Pick.tail)); (case hv => k_dflt (first | l_ints | assumption)); (case p3 => repeat (first | exact Mine.Pick.head | apply Mine.Pick.tail)); (case hk => rfl); (case hroom => k_room); (case hG | ht => assumption); (case hos => first | assumption | rfl); (case hP => omega); (case hl => first | decide | assumption | (refine neN ?_; omega)); (case hr => tlg_ne); (intros; rename_i F' N' la' _ _ _ h65' hx' hxD' ht' hG' ho'; (try simp only [AllLt, and_true] at la'); (try dsimp only [List.getD_cons_zero, List.getD_cons_succ, Int.toNat_zero, Int.toNat_one, Int.toNat_ofNat] at N'); (try k_sweep))))
local macro_rules | `(tactic| walk_at "call ref") => `(tactic| (k_here; (with_reducible show wpAny _ _ (call (.ref 97) [.ref _, .ref _]) _ _ _); k_dflt (refine' Mine.mul39 ?B ?F ?X ?T ?N ?p3 ?m0 ?m1 ?m2 ?m3 ?m4 ?m5 ?m6 ?m7 ?m8 ?hk ?hroom ?hG ?hos ?hP ?ht ?hr ?hy ?hml ?_); (case B | F | X | T | N => k_asm); (case p3 => repeat (first | exact Mine.Pick.head | apply Mine.Pick.tail)); (case m0 | m1 | m2 | m3 | m4 | m5 | m6 | m7 | m8 => k_dflt k_mem); (case hk => rfl); (case hroom => k_room); (case hG | ht => assumption); (case hos => first | assumption | rfl); (case hP => omega); (case hr => tlg_ne); (case hy => decide); (case hml => first | exact Mine.w12 | exact Mine.w22 | exact Mine.w2 | exact Mine.w3 | exact Mine.w4 | exact Mine.nxw2 | exact Mine.nyw3 | exact Mine.nxw2 _ _ | exact Mine.nyw3 _ _ | fail "no product"); (intros; rename_i F' N' ht' hG' ho'; (simp (disch := assumption) only [Mine.fmFm, Mine.fmZero, Mine.fmOne] at N'); (try k_sweep); (try dsimp only [PySem.W.CmpBack]))))
open PySem PySem.W PyProof.Rows PySem.Calls PyProof.Rows.LCg
set_option Elab.async false
namespace Mine
set_option maxRecDepth 100000 in
set_option maxHeartbeats 4000000 in
theorem pow2 {prog : Program} {w : World} {p : Program} {loose : List Str} {mean : ExcName → Option Value} {mg mb : Str → Option Value}
   {dp un : Nat} {gd : Option (List Code)} {cn : Str} {cs : Scope} {a : Addr} {ccd : Value} {cl : List (Str × Addr)} {outer : List Env} {A₀ : Around} {base h₀ : Heap} {L : Addr} {m : Str → Option Value} {s : Shared} {Q E : Value → Shared → Prop}
   {x dx mc Dx T0 T6 : Addr} {k1 k2 k3 k4 k5 tkP tkd u0 u6 te t0 t1 t2 t3 t4 t5 t6 t7 t8 t9 t10 t11 : Tok} {P : Int} {ps : Array Value} {os0 : OsState} {news rest : List (Addr × Obj)}
   (B : Below A₀ base outer h₀) (F : Fr h₀ L s.heap m) (X : (hd.heap_1 w.params).In h₀) (T : Top p loose mean mg mb h₀) (N0 : News h₀ L s.heap news) (p3 : Pick (65, tabO ps) news rest)
   (m0 : (x, instObj 177 dx) ∈ rest) (m1 : (dx, fqD w k1 k2 k3 k4 k5 P tkP mc Dx 39 12 tkd) ∈ rest) (m2 : (Dx, tupO [.int 0 t0, .int 1 t1, .int 0 t2, .int 0 t3, .int 0 t4, .int 0 t5, .int 0 t6, .int 0 t7, .int 0 t8, .int 0 t9, .int 0 t10, .int 0 t11]) ∈ rest) (m3 : (mc, lst [.ref T0, .ref T6]) ∈ rest) (m4 : (T0, pairO 0 u0 (.int 82 233)) ∈ rest) (m5 : (T6, pairO 6 u6 (.int (-18) 240)) ∈ rest) (hk : cs.kind = .function)
   (hroom : dp + 20 < recursionLimit) (hG : AllBare s.gens) (hos : s.os = os0) (hP : 7 ≤ P) (ht : TriplesOk ps.toList) (hr65 : Ne65o rest)
   (hQ : ∀ (s' : Shared) (X1 E1 G1 nc1 U0 U6 : Addr) (ps' : Array Value) (j1 j2 j3 j4 j5 tje q0 q6 v0 v1 v2 v3 v4 v5 v6 v7 v8 v9 v10 v11 : Tok), Fr h₀ L s'.heap m →
     News h₀ L s'.heap ((X1, instObj 177 E1) :: (E1, fqD w j1 j2 j3 j4 j5 P tkP nc1 G1 39 12 tje) :: (G1, tupO [.int 0 v0, .int 0 v1, .int 1 v2, .int 0 v3, .int 0 v4, .int 0 v5, .int 0 v6, .int 0 v7, .int 0 v8, .int 0 v9, .int 0 v10, .int 0 v11]) :: (nc1, lst [.ref U0, .ref U6]) :: (U0, pairO 0 q0 (.int 82 233)) :: (U6, pairO 6 q6 (.int (-18) 240)) :: (65, tabO ps') :: rest) → TriplesOk ps'.toList → AllBare s'.gens → s'.os = os0 → Q (.ref X1) s') :
   wpAny (model prog w) (ktrTop dp un gd cn cs L a ccd cl outer) (call (.ref 116) [.ref x, .int 2 te]) Q E s := by
  have N2 : News h₀ L s.heap ((65, tabO ps) :: rest) := by
    refine newsSub N0 ?_
    exact List.forall_mem_cons.mpr ⟨p3.mem.1, fun q hq => p3.mem.2 q hq⟩
  clear N0 p3
  refine wpAny_call ?_
  k_dflt (refine' code_def ?k1 ?k2 ?k3 ?k4 ?k5 ?kA ?kF ?kK ?k6 ?k7 ?k8 ?k9 ?kB ?_ ?c2 ?c3 ?c4 ?c5; (case kA => exact rfl); (case kF => exact rfl); (case kK => assumption); (case k1 => k_asm); (case k2 => k_asm); (case k3 => k_asm); (case k4 => k_asm); (case k5 => k_asm); (case k6 => k_is); (case k7 => k_is); (case k8 => k_room); (case k9 => first | exact BindsTo.of_eq rfl | exact binds_K (by k_in) rfl (by k_is) rfl rfl rfl | fail "k_enter: no rule for these arguments"); (case c5 => decide); (case kB => exact locs rfl); (case c2 => exact rfl); (case c3 => exact rfl); (case c4 => exact rfl); k_whole)
  intro g' L' h' FG' F' N' B' X' T'
  (try dsimp only)
  (try k_lift B')
  (try k_fold)
  k_steps
  rename (News h₀ L _ _) => kN9
  refine' hQ _ _ _ _ _ _ _ _ _ _ _ _ _ _ _ _ _ _ _ _ _ _ _ _ _ _ _ _ (by k_asm) (newsSub kN9 ?sub) (by assumption) (by assumption) (by assumption)
  case sub =>
    refine List.forall_mem_cons.mpr ⟨by k_mem, ?_⟩
    refine List.forall_mem_cons.mpr ⟨by k_mem, ?_⟩
    refine List.forall_mem_cons.mpr ⟨by k_mem, ?_⟩
    refine List.forall_mem_cons.mpr ⟨by k_mem, ?_⟩
    refine List.forall_mem_cons.mpr ⟨by k_mem, ?_⟩
    refine List.forall_mem_cons.mpr ⟨by k_mem, ?_⟩
    refine List.forall_mem_cons.mpr ⟨by k_mem, ?_⟩
    exact fun q hq => by repeat (first | exact hq | refine List.Mem.tail _ ?_)
end Mine

open PySem PySem.W PyProof.Rows PySem.Calls PyProof.Rows.LCg
set_option Elab.async false
namespace Mine
set_option maxRecDepth 100000 in
set_option maxHeartbeats 4000000 in
theorem pow3 {prog : Program} {w : World} {p : Program} {loose : List Str} {mean : ExcName → Option Value} {mg mb : Str → Option Value}
   {dp un : Nat} {gd : Option (List Code)} {cn : Str} {cs : Scope} {a : Addr} {ccd : Value} {cl : List (Str × Addr)} {outer : List Env} {A₀ : Around} {base h₀ : Heap} {L : Addr} {m : Str → Option Value} {s : Shared} {Q E : Value → Shared → Prop}
   {x dx mc Dx T0 T6 : Addr} {k1 k2 k3 k4 k5 tkP tkd u0 u6 te t0 t1 t2 t3 t4 t5 t6 t7 t8 t9 t10 t11 : Tok} {P : Int} {ps : Array Value} {os0 : OsState} {news rest : List (Addr × Obj)}
   (B : Below A₀ base outer h₀) (F : Fr h₀ L s.heap m) (X : (hd.heap_1 w.params).In h₀) (T : Top p loose mean mg mb h₀) (N0 : News h₀ L s.heap news) (p3 : Pick (65, tabO ps) news rest)
   (m0 : (x, instObj 177 dx) ∈ rest) (m1 : (dx, fqD w k1 k2 k3 k4 k5 P tkP mc Dx 39 12 tkd) ∈ rest) (m2 : (Dx, tupO [.int 0 t0, .int 1 t1, .int 0 t2, .int 0 t3, .int 0 t4, .int 0 t5, .int 0 t6, .int 0 t7, .int 0 t8, .int 0 t9, .int 0 t10, .int 0 t11]) ∈ rest) (m3 : (mc, lst [.ref T0, .ref T6]) ∈ rest) (m4 : (T0, pairO 0 u0 (.int 82 233)) ∈ rest) (m5 : (T6, pairO 6 u6 (.int (-18) 240)) ∈ rest) (hk : cs.kind = .function)
   (hroom : dp + 20 < recursionLimit) (hG : AllBare s.gens) (hos : s.os = os0) (hP : 7 ≤ P) (ht : TriplesOk ps.toList) (hr65 : Ne65o rest)
   (hQ : ∀ (s' : Shared) (X1 E1 G1 nc1 U0 U6 : Addr) (ps' : Array Value) (j1 j2 j3 j4 j5 tje q0 q6 v0 v1 v2 v3 v4 v5 v6 v7 v8 v9 v10 v11 : Tok), Fr h₀ L s'.heap m →
     News h₀ L s'.heap ((X1, instObj 177 E1) :: (E1, fqD w j1 j2 j3 j4 j5 P tkP nc1 G1 39 12 tje) :: (G1, tupO [.int 0 v0, .int 0 v1, .int 0 v2, .int 1 v3, .int 0 v4, .int 0 v5, .int 0 v6, .int 0 v7, .int 0 v8, .int 0 v9, .int 0 v10, .int 0 v11]) :: (nc1, lst [.ref U0, .ref U6]) :: (U0, pairO 0 q0 (.int 82 233)) :: (U6, pairO 6 q6 (.int (-18) 240)) :: (65, tabO ps') :: rest) → TriplesOk ps'.toList → AllBare s'.gens → s'.os = os0 → Q (.ref X1) s') :
   wpAny (model prog w) (ktrTop dp un gd cn cs L a ccd cl outer) (call (.ref 116) [.ref x, .int 3 te]) Q E s := by
  have N2 : News h₀ L s.heap ((65, tabO ps) :: rest) := by
    refine newsSub N0 ?_
    exact List.forall_mem_cons.mpr ⟨p3.mem.1, fun q hq => p3.mem.2 q hq⟩
  clear N0 p3
  refine wpAny_call ?_
  k_dflt (refine' code_def ?k1 ?k2 ?k3 ?k4 ?k5 ?kA ?kF ?kK ?k6 ?k7 ?k8 ?k9 ?kB ?_ ?c2 ?c3 ?c4 ?c5; (case kA => exact rfl); (case kF => exact rfl); (case kK => assumption); (case k1 => k_asm); (case k2 => k_asm); (case k3 => k_asm); (case k4 => k_asm); (case k5 => k_asm); (case k6 => k_is); (case k7 => k_is); (case k8 => k_room); (case k9 => first | exact BindsTo.of_eq rfl | exact binds_K (by k_in) rfl (by k_is) rfl rfl rfl | fail "k_enter: no rule for these arguments"); (case c5 => decide); (case kB => exact locs rfl); (case c2 => exact rfl); (case c3 => exact rfl); (case c4 => exact rfl); k_whole)
  intro g' L' h' FG' F' N' B' X' T'
  (try dsimp only)
  (try k_lift B')
  (try k_fold)
  k_steps
  rename (News h₀ L _ _) => kN9
  refine' hQ _ _ _ _ _ _ _ _ _ _ _ _ _ _ _ _ _ _ _ _ _ _ _ _ _ _ _ _ (by k_asm) (newsSub kN9 ?sub) (by assumption) (by assumption) (by assumption)
  case sub =>
    refine List.forall_mem_cons.mpr ⟨by k_mem, ?_⟩
    refine List.forall_mem_cons.mpr ⟨by k_mem, ?_⟩
    refine List.forall_mem_cons.mpr ⟨by k_mem, ?_⟩
    refine List.forall_mem_cons.mpr ⟨by k_mem, ?_⟩
    refine List.forall_mem_cons.mpr ⟨by k_mem, ?_⟩
    refine List.forall_mem_cons.mpr ⟨by k_mem, ?_⟩
    refine List.forall_mem_cons.mpr ⟨by k_mem, ?_⟩
    exact fun q hq => by repeat (first | exact hq | refine List.Mem.tail _ ?_)
end Mine

local macro_rules | `(tactic| walk_at "call ref") => `(tactic| (k_here; (with_reducible show wpAny _ _ (call (.ref 116) [.ref _, .int 2 _]) _ _ _); k_dflt (refine' Mine.pow2 ?B ?F ?X ?T ?N ?p3 ?m0 ?m1 ?m2 ?m3 ?m4 ?m5 ?hk ?hroom ?hG ?hos ?hP ?ht ?hr ?_); (case B | F | X | T | N => k_asm); (case p3 => repeat (first | exact Mine.Pick.head | apply Mine.Pick.tail)); (case m0 | m1 | m2 | m3 | m4 | m5 => k_dflt k_mem); (case hk => rfl); (case hroom => k_room); (case hG | ht => assumption); (case hos => first | assumption | rfl); (case hP => omega); (case hr => tlg_ne); (intros; rename_i F' N' ht' hG' ho'; (try k_sweep); (try dsimp only [PySem.W.CmpBack]))))
local macro_rules | `(tactic| walk_at "call ref") => `(tactic| (k_here; (with_reducible show wpAny _ _ (call (.ref 116) [.ref _, .int 3 _]) _ _ _); k_dflt (refine' Mine.pow3 ?B ?F ?X ?T ?N ?p3 ?m0 ?m1 ?m2 ?m3 ?m4 ?m5 ?hk ?hroom ?hG ?hos ?hP ?ht ?hr ?_); (case B | F | X | T | N => k_asm); (case p3 => repeat (first | exact Mine.Pick.head | apply Mine.Pick.tail)); (case m0 | m1 | m2 | m3 | m4 | m5 => k_dflt k_mem); (case hk => rfl); (case hroom => k_room); (case hG | ht => assumption); (case hos => first | assumption | rfl); (case hP => omega); (case hr => tlg_ne); (intros; rename_i F' N' ht' hG' ho'; (try k_sweep); (try dsimp only [PySem.W.CmpBack]))))
open PySem PySem.W PyProof.Rows PySem.Calls PyProof.Rows.LCg
set_option Elab.async false
namespace Mine
set_option maxRecDepth 100000 in
set_option maxHeartbeats 6000000 in
theorem twist39P {prog : Program} {w : World} {p : Program} {loose : List Str} {mean : ExcName → Option Value} {mg mb : Str → Option Value}
   {dp un : Nat} {gd : Option (List Code)} {cn : Str} {cs : Scope} {a : Addr} {ccd : Value} {cl : List (Str × Addr)} {outer : List Env} {A₀ : Around} {base h₀ : Heap} {L : Addr} {m : Str → Option Value} {s : Shared} {Q E : Value → Shared → Prop}
   {fp x0 d0 D0 md0 mc0 x1 d1 D1 md1 mc1 x2 d2 D2 md2 mc2 t d3 D3 mc3 : Addr} {k01 k02 k03 k04 k05 tk0 tkd0 ta0 tb0 k11 k12 k13 k14 k15 tk1 tkd1 ta1 tb1 k21 k22 k23 k24 k25 tk2 tkd2 ta2 tb2 k31 k32 k33 k34 k35 tk3 tkd3 : Tok} {P a0 a1 a2 b0 b1 b2 : Int} {ps : Array Value} {os0 : OsState} {news rest : List (Addr × Obj)}
   (B : Below A₀ base outer h₀) (F : Fr h₀ L s.heap m) (X : (hd.heap_1 w.params).In h₀) (T : Top p loose mean mg mb h₀) (N0 : News h₀ L s.heap news) (p3 : Pick (65, tabO ps) news rest)
   (m0 : (fp, tupO [.ref x0, .ref x1, .ref x2]) ∈ rest) (m1 : (x0, instObj 206 d0) ∈ rest) (m2 : (d0, fqD w k01 k02 k03 k04 k05 P tk0 mc0 D0 md0 2 tkd0) ∈ rest) (m3 : (D0, tupO [.int a0 ta0, .int b0 tb0]) ∈ rest) (m4 : (x1, instObj 206 d1) ∈ rest) (m5 : (d1, fqD w k11 k12 k13 k14 k15 P tk1 mc1 D1 md1 2 tkd1) ∈ rest) (m6 : (D1, tupO [.int a1 ta1, .int b1 tb1]) ∈ rest) (m7 : (x2, instObj 206 d2) ∈ rest) (m8 : (d2, fqD w k21 k22 k23 k24 k25 P tk2 mc2 D2 md2 2 tkd2) ∈ rest) (m9 : (D2, tupO [.int a2 ta2, .int b2 tb2]) ∈ rest) (m10 : (t, instObj 177 d3) ∈ rest) (m11 : (d3, fqD w k31 k32 k33 k34 k35 P tk3 mc3 D3 39 12 tkd3) ∈ rest) (hk : cs.kind = .function)
   (hroom : dp + 40 < recursionLimit) (hG : AllBare s.gens) (hos : s.os = os0) (hP : 7 ≤ P) (ht : TriplesOk ps.toList) (hr65 : Ne65o rest)
   (hQ : ∀ (s' : Shared) (R X0 E0 G0 nc0 X1 E1 G1 nc1 X2 E2 G2 nc2 : Addr) (ps' : Array Value) (j01 j02 j03 j04 j05 tje0 v0_0 v0_1 v0_2 v0_3 v0_4 v0_5 v0_6 v0_7 v0_8 v0_9 v0_10 v0_11 j11 j12 j13 j14 j15 tje1 v1_0 v1_1 v1_2 v1_3 v1_4 v1_5 v1_6 v1_7 v1_8 v1_9 v1_10 v1_11 j21 j22 j23 j24 j25 tje2 v2_0 v2_1 v2_2 v2_3 v2_4 v2_5 v2_6 v2_7 v2_8 v2_9 v2_10 v2_11 : Tok), Fr h₀ L s'.heap m →
     News h₀ L s'.heap ((R, tupO [.ref X0, .ref X1, .ref X2]) :: (X0, instObj 177 E0) :: (E0, fqD w j01 j02 j03 j04 j05 P tk3 nc0 G0 39 12 tje0) :: (G0, tupO [.int 0 v0_0, .int 0 v0_1, .int (((a0 - b0 * 9)).fmod P) v0_2, .int 0 v0_3, .int 0 v0_4, .int 0 v0_5, .int 0 v0_6, .int 0 v0_7, .int ((b0).fmod P) v0_8, .int 0 v0_9, .int 0 v0_10, .int 0 v0_11]) :: (X1, instObj 177 E1) :: (E1, fqD w j11 j12 j13 j14 j15 P tk3 nc1 G1 39 12 tje1) :: (G1, tupO [.int 0 v1_0, .int 0 v1_1, .int 0 v1_2, .int (((a1 - b1 * 9)).fmod P) v1_3, .int 0 v1_4, .int 0 v1_5, .int 0 v1_6, .int 0 v1_7, .int 0 v1_8, .int ((b1).fmod P) v1_9, .int 0 v1_10, .int 0 v1_11]) :: (X2, instObj 177 E2) :: (E2, fqD w j21 j22 j23 j24 j25 P tk3 nc2 G2 39 12 tje2) :: (G2, tupO [.int (((a2 - b2 * 9)).fmod P) v2_0, .int 0 v2_1, .int 0 v2_2, .int 0 v2_3, .int 0 v2_4, .int 0 v2_5, .int ((b2).fmod P) v2_6, .int 0 v2_7, .int 0 v2_8, .int 0 v2_9, .int 0 v2_10, .int 0 v2_11]) :: (65, tabO ps') :: rest) → @Ne Nat R 65 → TriplesOk ps'.toList → AllBare s'.gens → s'.os = os0 → Q (.ref R) s') :
   wpAny (model prog w) (ktrTop dp un gd cn cs L a ccd cl outer) (call (.ref 35) [.ref fp, .ref t]) Q E s := by
  have N2 : News h₀ L s.heap ((65, tabO ps) :: rest) := by
    refine newsSub N0 ?_
    exact List.forall_mem_cons.mpr ⟨p3.mem.1, fun q hq => p3.mem.2 q hq⟩
  clear N0 p3
  refine wpAny_call ?_
  k_dflt (refine' code_def ?k1 ?k2 ?k3 ?k4 ?k5 ?kA ?kF ?kK ?k6 ?k7 ?k8 ?k9 ?kB ?_ ?c2 ?c3 ?c4 ?c5; (case kA => exact rfl); (case kF => exact rfl); (case kK => assumption); (case k1 => k_asm); (case k2 => k_asm); (case k3 => k_asm); (case k4 => k_asm); (case k5 => k_asm); (case k6 => k_is); (case k7 => k_is); (case k8 => k_room); (case k9 => first | exact BindsTo.of_eq rfl | exact binds_K (by k_in) rfl (by k_is) rfl rfl rfl | fail "k_enter: no rule for these arguments"); (case c5 => decide); (case kB => exact locs rfl); (case c2 => exact rfl); (case c3 => exact rfl); (case c4 => exact rfl); k_whole)
  intro g' L' h' FG' F' N' B' X' T'
  (try dsimp only)
  (try k_lift B')
  (try k_fold)
  k_steps
  rename (News h₀ L _ _) => kN9
  (try simp (disch := assumption) only [fmFm, fmZero, fmOne] at kN9)
  refine' hQ _ _ _ _ _ _ _ _ _ _ _ _ _ _ _ _ _ _ _ _ _ _ _ _ _ _ _ _ _ _ _ _ _ _ _ _ _ _ _ _ _ _ _ _ _ _ _ _ _ _ _ _ _ _ _ _ _ _ _ _ _ _ _ _ _ _ _ _ _ (by k_asm) (newsSub kN9 ?sub) ?r65 (by assumption) (by assumption) (by assumption)
  case sub =>
    refine List.forall_mem_cons.mpr ⟨by k_mem, ?_⟩
    refine List.forall_mem_cons.mpr ⟨by k_mem, ?_⟩
    refine List.forall_mem_cons.mpr ⟨by k_mem, ?_⟩
    refine List.forall_mem_cons.mpr ⟨by k_mem, ?_⟩
    refine List.forall_mem_cons.mpr ⟨by k_mem, ?_⟩
    refine List.forall_mem_cons.mpr ⟨by k_mem, ?_⟩
    refine List.forall_mem_cons.mpr ⟨by k_mem, ?_⟩
    refine List.forall_mem_cons.mpr ⟨by k_mem, ?_⟩
    refine List.forall_mem_cons.mpr ⟨by k_mem, ?_⟩
    refine List.forall_mem_cons.mpr ⟨by k_mem, ?_⟩
    refine List.forall_mem_cons.mpr ⟨by k_mem, ?_⟩
    exact fun q hq => by repeat (first | exact hq | refine List.Mem.tail _ ?_)
  case r65 => refine neN ?_; omega

end Mine

end

section
open PySem PySem.W PyProof.Rows PySem.Calls
local macro_rules | `(tactic| walk_at "call ref") => `(tactic| (k_here; (with_reducible show wpAny _ _ (call (.ref 222) [.ref _, .ref _]) _ _ _); k_dflt (refine' Mine.twist2P ?B ?F ?X ?T ?N ?p3 ?m0 ?m1 ?m2 ?m3 ?m4 ?m5 ?m6 ?m7 ?m8 ?m9 ?m10 ?m11 ?hk ?hroom ?hG ?hos ?hP ?ht ?hr ?_); (case B | F | X | T | N => k_asm); (case p3 => repeat (first | exact Mine.Pick.head | apply Mine.Pick.tail)); (case m0 | m1 | m2 | m3 | m4 | m5 | m6 | m7 | m8 | m9 | m10 | m11 => k_dflt k_mem); (case hk => rfl); (case hroom => k_room); (case hG | ht => assumption); (case hos => first | assumption | rfl); (case hP => omega); (case hr => tlg_ne); (intros; rename_i F' N' rr' ht' hG' ho'; (try simp only [Mine.fmNeg, Mine.fmFm, Mine.fmSub1, Mine.fmSub9, Mine.negSub1, Mine.negSub9, Mine.fmZero, Int.neg_zero] at N'); (try k_sweep))))
local macro_rules | `(tactic| walk_at "call ref") => `(tactic| (k_here; (with_reducible show wpAny _ _ (call (.ref 215) [.ref _]) _ _ _); k_dflt (refine' Mine.negQ2 ?B ?F ?X ?T ?N ?p3 ?m0 ?m1 ?m2 ?m3 ?m4 ?hmd ?hk ?hroom ?hG ?hos ?hP ?ht ?hr ?_); (case B | F | X | T | N => k_asm); (case p3 => repeat (first | exact Mine.Pick.head | apply Mine.Pick.tail)); (case m0 | m1 | m2 | m3 | m4 => k_dflt k_mem); (case hmd => first | assumption | (refine neN ?_; omega)); (case hk => rfl); (case hroom => k_room); (case hG | ht => assumption); (case hos => first | assumption | rfl); (case hP => omega); (case hr => tlg_ne); (intros; rename_i F' N' rr' ht' hG' ho'; (try simp only [Mine.fmNeg, Mine.fmFm, Mine.fmSub1, Mine.fmSub9, Mine.negSub1, Mine.negSub9, Mine.fmZero, Int.neg_zero] at N'); (try k_sweep))))
local macro_rules | `(tactic| walk_at "call ref") => `(tactic| (k_here; (with_reducible show wpAny _ _ (call (.ref 215) [.ref _]) _ _ _); k_dflt (refine' Mine.neg42 ?B ?F ?X ?T ?N ?p3 ?m0 ?m1 ?m2 ?m3 ?hk ?hroom ?hG ?hos ?hP ?ht ?hr ?_); (case B | F | X | T | N => k_asm); (case p3 => repeat (first | exact Mine.Pick.head | apply Mine.Pick.tail)); (case m0 | m1 | m2 | m3 => k_dflt k_mem); (case hk => rfl); (case hroom => k_room); (case hG | ht => assumption); (case hos => first | assumption | rfl); (case hP => omega); (case hr => tlg_ne); (intros; rename_i F' N' rr' ht' hG' ho'; (try simp only [Mine.fmNeg, Mine.fmFm, Mine.fmSub1, Mine.fmSub9, Mine.negSub1, Mine.negSub9, Mine.fmZero, Int.neg_zero] at N'); (try k_sweep))))
local macro_rules | `(tactic| walk_at "call ref") => `(tactic| (k_here; (with_reducible show wpAny _ _ (call (.ref 28) [.ref _]) _ _ _); k_dflt (refine' Mine.neg39 ?B ?F ?X ?T ?N ?p3 ?m0 ?m1 ?m2 ?m3 ?hk ?hroom ?hG ?hos ?hP ?ht ?hr ?_); (case B | F | X | T | N => k_asm); (case p3 => repeat (first | exact Mine.Pick.head | apply Mine.Pick.tail)); (case m0 | m1 | m2 | m3 => k_dflt k_mem); (case hk => rfl); (case hroom => k_room); (case hG | ht => assumption); (case hos => first | assumption | rfl); (case hP => omega); (case hr => tlg_ne); (intros; rename_i F' N' rr' ht' hG' ho'; (try simp only [Mine.fmNeg, Mine.fmFm, Mine.fmSub1, Mine.fmSub9, Mine.negSub1, Mine.negSub9, Mine.fmZero, Int.neg_zero] at N'); (try k_sweep))))
local macro_rules | `(tactic| walk_at "execs cons") => `(tactic| ((with_reducible show wpAny _ _ (execs (Stmt.Return (some (Expr.Constant (Const.bool false) _ _)) _ :: _) _) _ _ _); (rename (¬ (_ = _)) => kz9); exact absurd (by with_unfolding_all rfl) kz9))
local macro_rules | `(tactic| walk_at "call ref") => `(tactic| (k_here; (with_reducible show wpAny _ _ (call (.ref 35) [.ref _, .ref _]) _ _ _); k_dflt (refine' Mine.twist39P ?B ?F ?X ?T ?N ?p3 ?m0 ?m1 ?m2 ?m3 ?m4 ?m5 ?m6 ?m7 ?m8 ?m9 ?m10 ?m11 ?hk ?hroom ?hG ?hos ?hP ?ht ?hr ?_); (case B | F | X | T | N => k_asm); (case p3 => repeat (first | exact Mine.Pick.head | apply Mine.Pick.tail)); (case m0 | m1 | m2 | m3 | m4 | m5 | m6 | m7 | m8 | m9 | m10 | m11 => k_dflt k_mem); (case hk => rfl); (case hroom => k_room); (case hG | ht => assumption); (case hos => first | assumption | rfl); (case hP => omega); (case hr => tlg_ne); (intros; rename_i F' N' rr' ht' hG' ho'; (try simp only [Mine.fmNeg, Mine.fmFm, Mine.fmSub1, Mine.fmSub9, Mine.negSub1, Mine.negSub9, Mine.fmZero, Int.neg_zero] at N'); (try k_sweep))))
local macro_rules | `(tactic| walk_at "call ref") => `(tactic| (k_here; (with_reducible show wpAny _ _ (call (.ref 236) _) _ _ _); k_dflt (refine' Mine.image236 ?B ?F ?X ?T ?N ?mp ?m65 ?hk ?k0 ?k1 ?z0 ?z1 ?hroom ?hP ?_; (case B | F | X | T | N => k_asm); (case mp | m65 => k_dflt k_mem); (case hk => k_dflt rfl); (case k0 | k1 | z0 | z1 => k_dflt decide); (case hroom => k_room); (case hP => omega)); (intro h' R' vs' n' tk' F' N' l' i'; (try k_lt l'); (try k_sweep))))
set_option maxRecDepth 100000 in
set_option maxHeartbeats 0 in
theorem PySem.Challenge.cw_kh0014_01_holds : PySem.Challenge.rw_kh0014_01.Holds := by
  w_on
  refine holds_law Mine.law_said fun said => ?_
  refine holds_open (q := Mine.view6) (loose := Mine.loose6) (Xt := fun s => xlAt Mine.view6 [] s && recOk (RowW.records Mine.row6.toRowW) s) (XP := XL Mine.view6 []) (Yf := Hook.obs Mine.hook2) (Ya := Hook.val Mine.hook2) (YP := Hook.says Mine.hook2) (N := 3566) Mine.left6 (Hook.of Mine.hook2) (Hook.keeps Mine.hook2) (fun s e => xl_of s (Bool.and_eq_true_iff.mp e).1) XL.keeps (by rfl) (by rfl) (by rfl) (fun s e => recFacts_of (Bool.and_eq_true_iff.mp e).2) (by rfl) (by first | assumption | decide +kernel) (by decide +kernel) ⟨rfl, rfl, rfl, rfl, rfl, by decide +kernel⟩ ?hw ?hc
  (case hw => w_witness2)
  clear said
  intro w s₀ s₁ mg mb G Y fa o pm cd doc dV kV ho hd hcd hD hmg hg args vals as hpre hlay hrd hwl hlo
  have KX : (Mine.hd.heap_1 w.params).In s₁.heap := Y.1
  have h65 : s₁.heap.get? 65 = some (Mine.tabO #[]) := Y.2
  refine Ground.open G ?_
  intro T B D TE TW
  try (obtain ⟨_, _, he, B0⟩ := based_of_top T rfl hmg ho hd; have he' : cd = _ := he; subst he'; clear he)
  wrow_args hpre hlay hrd hwl hlo
  all_goals (
    first | refine callC_kw (enter_call ?_) | refine enter_call ?_ | refine callC_kw (enter_callW ?_) | refine enter_callW ?_ | w_how
    w_top on
    have K0 := below_caller (Top.heap T)
    w_call any ho hd hcd hD T F
    skip)
  refine Mine.genPost (P := fun Q' => ∀ (s' : Shared) (m' : Str → Option Value) (news : List (Addr × Obj)) (ps : Array Value), Fr (s₁.heap.hide 65) s₁.heap.objs.size s'.heap m' → News (s₁.heap.hide 65) s₁.heap.objs.size s'.heap news → (65, Mine.tabO ps) ∈ news → AllBare s'.gens → s'.os = s₁.os → Q' (.ret (.bool true)) s') ?_ ?_
  · intro s' m' news ps F9 N9 hm9 hG9 hos9
    exact Mine.endLaw KX h65 F9 N9 hm9 (fun _ => rfl) (by first | rfl | wrow_post) hG9 hos9
  intro Qv hend
  have X65 := Mine.inHide KX
  have T65 := Mine.topHide T h65
  have K65 := below_caller (s₁.heap.hide 65)
  have big65 := ltN (Heap.lt_size h65)
  have bare0 : AllBare s₁.gens := AllBare.of_eq hg
  clear Y G B TE TW hD hg
  repeat' ((fail_if_success (with_reducible show wpAny _ _ (eval (Expr.Subscript (Expr.Call _ _ _ _) _ _) _) _ _ _)); (fail_if_success (with_reducible show wpAny _ _ (execs (Stmt.Assign [Expr.Name (Str.ofString "pairs") _] _ _ :: _) _) _ _ _)); first | (k_unfold; (try dsimp only)) | (k_end; wrow_close) | walk1 | (dsimp only; walk1) | (leave1; walk_say "STEP leave1"; try dsimp only) | fail "no step")
  rename Fr _ _ _ _ => Fa
  rename News _ _ _ _ => Na
  rename IntsAre _ (List.map _ (rangeKs _ _)) => hI8
  obtain ⟨g0, g1, g2, g3, g4, g5, g6, g7, t0, t1, t2, t3, t4, t5, t6, t7, rfl⟩ := Mine.ints8 hI8
  have F65 := Mine.frHide Fa
  have N65 := Mine.newsHide Fa Na h65
  rename (_ ∧ _ ∧ _) => o9
  obtain ⟨o91, o92, o93⟩ := o9
  clear hI8 Fa Na T K0 KX h65
  walk1
  repeat' ((fail_if_success (with_reducible show wpAny _ _ (eval (Expr.Subscript (Expr.Call _ _ _ _) _ _) _) _ _ _)); (fail_if_success (with_reducible show wpAny _ _ (execs (Stmt.Assign [Expr.Name (Str.ofString "pairs") _] _ _ :: _) _) _ _ _)); first | (k_unfold; (try dsimp only)) | (k_end; wrow_close) | walk1 | (dsimp only; walk1) | (leave1; walk_say "STEP leave1"; try dsimp only) | fail "no step")
  all_goals first | (exfalso; omega) | skip
  all_goals (
    rename_i z12 z13 z16 z17 z18 z19 z20 z21 z22 z23 z24 z25 z26 z27 z28 z29 z30 z31 z32 z33 z34 z36 z37 z38 z39 z40 z41 z42 z43 z44 z53 z54 z55 z56 z57 z58 z59 z60 z61 z62 z63 z64 z65 z66 z67 z68 z69 z70 z87 z91 z92 z93 z94 z95 z96 z99 z100 z101 z102 z103 z104 z105 z106 z107 z108 z109 z110 z111 z113 z114 z115 z116 z117 z118 z119 z120 z121 z122 z123 z124 z125 z126 z127 z128
    (try dsimp only at z127 z128 z118 z125 ⊢)
    have N := Mine.newsSub z128 (news' := [(z116, _), (65, _), (z64, _), (s₁.heap.objs.size + 1 + 1 + 1, z110), (s₁.heap.objs.size + 1 + 1, z68), (s₁.heap.objs.size + 1, z40)]) (by
      refine List.forall_mem_cons.mpr ⟨by k_mem, ?_⟩
      refine List.forall_mem_cons.mpr ⟨by k_mem, ?_⟩
      refine List.forall_mem_cons.mpr ⟨by k_mem, ?_⟩
      refine List.forall_mem_cons.mpr ⟨by k_mem, ?_⟩
      refine List.forall_mem_cons.mpr ⟨by k_mem, ?_⟩
      refine List.forall_mem_cons.mpr ⟨by k_mem, ?_⟩
      exact List.forall_mem_nil _)
    obtain ⟨-, o94, o95, o96, o97, o98⟩ := z118
    obtain ⟨P, hP7, hcp⟩ := Mine.primeCell z111
    clear z13 z16 z17 z18 z19 z20 z21 z22 z23 z25 z26 z27 z28 z29 z30 z31 z32 z33 z34 z36 z37 z38 z39 z41 z42 z43 z44 z53 z54 z55 z56 z57 z58 z59 z60 z61 z62 z63 z65 z66 z67 z70 z87 z91 z92 z93 z94 z95 z96 z99 z100 z101 z102 z103 z104 z105 z106 z109 z114 z115 z117 z119 z120 z121 z122 z123 z124 z128 o ho hmg D B0 hcd hd qk ek z111)
  w_top off
  · as_aux_lemma =>
      have ht0 : TriplesOk (#[] : Array Value).toList := trivial
      repeat' ((fail_if_success (with_reducible show wpAny _ _ (execs (Stmt.Assign [Expr.Name (Str.ofString "form") _] _ _ :: _) _) _ _ _)); first | (k_unfold; (try dsimp only)) | (k_end; wrow_close) | walk1 | (dsimp only; walk1) | (leave1; walk_say "STEP leave1"; try dsimp only) | fail "no step")
      rename_i D7 h7 l13 g' I2 oI2 C2 oC2 D6 m2 h6 tk3 E2 hC2 hx2 off2 ne2 ra2 rb2 rc2 t5 t4 D5 h5 l12 I1 oI1 C1 oC1 D4 m1 h4 tk2 E1 hC1 hx1 off1 ne1 ra1 rb1 rc1 t3 t2 D3 h3 l11 I oI C oC Dd m h2 tk1 E hC hx off ne ra rb rc t1 t0 D1 h1 F1 N1 l1 D h tk F N o1 r1
      have q1 : @Ne Nat D1 65 := Nat.ne_of_gt (by omega)
      have q3 : @Ne Nat D3 65 := Nat.ne_of_gt (by omega)
      have q5 : @Ne Nat D5 65 := Nat.ne_of_gt (by omega)
      have q0 : @Ne Nat z116 65 := Nat.ne_of_gt o94
      have qD : @Ne Nat D 65 := by first | assumption | omega
      have qL : @Ne Nat (s₁.heap.objs.size + 1 + 1 + 1) 65 := by omega
      have M := Mine.newsSub N (news' := [(D, _), (D1, Mine.tupO [.int g6 t1, .int g7 t0]), (D3, Mine.tupO [.int g4 t3, .int g5 t2]), (D5, Mine.tupO [.int g2 t5, .int g3 t4]), (z116, _), (65, _), (s₁.heap.objs.size + 1 + 1 + 1, z110)]) (by
          refine List.forall_mem_cons.mpr ⟨by k_mem, ?_⟩
          refine List.forall_mem_cons.mpr ⟨by k_mem, ?_⟩
          refine List.forall_mem_cons.mpr ⟨by k_mem, ?_⟩
          refine List.forall_mem_cons.mpr ⟨by k_mem, ?_⟩
          refine List.forall_mem_cons.mpr ⟨by k_mem, ?_⟩
          refine List.forall_mem_cons.mpr ⟨by k_mem, ?_⟩
          refine List.forall_mem_cons.mpr ⟨by k_mem, ?_⟩
          exact List.forall_mem_nil _)
      clear l13 ra2 rb2 rc2 ra1 rb1 rc1 ra rb rc r1 hC2 hx2 ne2 off2 l12 hC1 hx1 ne1 off1 l11 hC hx ne off l1 F1 N1 o1 N o95 o96 o97 o98 o91 o92 o93 z69 D7 h7 g' I2 oI2 C2 oC2 D6 m2 h6 tk3 E2 h5 I1 oI1 C1 oC1 D4 m1 h4 tk2 E1 h3 I oI C oC Dd m h2 tk1 E h1 z113 z68
      as_aux_lemma =>
        repeat' ((fail_if_success (with_reducible show wpAny _ _ (execs (Stmt.Assign [Expr.Name (Str.ofString "twelve") _] _ _ :: _) _) _ _ _)); first | (k_unfold; (try dsimp only)) | (k_end; wrow_close) | walk1 | (dsimp only; walk1) | (leave1; walk_say "STEP leave1"; try dsimp only) | fail "no step")
        (repeat (rename LCg.Off3 _ _ _ _ => zz; clear zz)); (repeat (rename LCg.Off1 _ _ => zz; clear zz)); (repeat (rename InElt _ _ => zz; clear zz)); (repeat (rename LCg.NsObj _ _ => zz; clear zz)); (repeat (rename (_ ∧ _) => zz; clear zz)); (repeat (rename (Value → Shared → Prop) => zz; clear zz)); (repeat (rename (_ = some _) => zz; clear zz))
        as_aux_lemma =>
          repeat' ((fail_if_success (with_reducible show wpAny _ _ (execs (Stmt.Assign [Expr.Name (Str.ofString "found") _] _ _ :: _) _) _ _ _)); first | (k_unfold; (try dsimp only)) | (k_end; wrow_close) | walk1 | (dsimp only; walk1) | (leave1; walk_say "STEP leave1"; try dsimp only) | fail "no step")
          all_goals first | contradiction | skip
          rename News _ _ _ _ => NN
          have M := Mine.newsDrop4 NN
          clear NN
          (repeat (rename LCg.Off3 _ _ _ _ => zz; clear zz)); (repeat (rename LCg.Off1 _ _ => zz; clear zz)); (repeat (rename InElt _ _ => zz; clear zz)); (repeat (rename LCg.NsObj _ _ => zz; clear zz)); (repeat (rename (_ ∧ _) => zz; clear zz)); (repeat (rename (Value → Shared → Prop) => zz; clear zz)); (repeat (rename (_ = some _) => zz; clear zz))
          as_aux_lemma =>
            repeat' ((fail_if_success (with_reducible show wpAny _ _ (execs (Stmt.For _ _ _ _ _ :: _) _) _ _ _)); first | (k_unfold; (try dsimp only)) | (k_end; wrow_close) | walk1 | (dsimp only; walk1) | (leave1; walk_say "STEP leave1"; try dsimp only) | fail "no step")
            dsimp only
            rename News _ _ _ _ => NN
            rename Fr _ _ _ _ => FF
            have M := Mine.trimF39 FF NN rfl rfl rfl (by k_dflt k_mem) (by k_dflt k_mem) (by k_dflt k_mem) (by k_dflt k_mem) (by k_dflt k_mem) (by k_dflt k_mem) (by k_dflt k_mem) (by k_dflt k_mem) (by k_dflt k_mem) (by k_dflt k_mem) (by k_dflt k_mem) (by k_dflt k_mem) (by k_dflt k_mem) (by k_dflt k_mem) (by k_dflt k_mem) (by k_dflt k_mem) (by k_dflt k_mem)
            clear NN
            (repeat (rename LCg.Off3 _ _ _ _ => zz; clear zz)); (repeat (rename LCg.Off1 _ _ => zz; clear zz)); (repeat (rename InElt _ _ => zz; clear zz)); (repeat (rename LCg.NsObj _ _ => zz; clear zz)); (repeat (rename (_ ∧ _) => zz; clear zz)); (repeat (rename (Value → Shared → Prop) => zz; clear zz)); (repeat (rename (_ = some _) => zz; clear zz))
            as_aux_lemma =>
              walk1
              repeat' ((fail_if_success (with_reducible show wpAny _ _ (execs (Stmt.Assign [Expr.Name (Str.ofString "turned") _] _ _ :: _) _) _ _ _)); first | (k_unfold; (try dsimp only)) | (k_end; wrow_close) | walk1 | (dsimp only; walk1) | (leave1; walk_say "STEP leave1"; try dsimp only) | fail "no step")
              dsimp only
              rename News _ _ _ _ => NN
              rename Fr _ _ _ _ => FF
              dsimp only [envOfC] at FF NN
              have M := Mine.trimF39 FF NN rfl rfl rfl (by k_dflt k_mem) (by k_dflt k_mem) (by k_dflt k_mem) (by k_dflt k_mem) (by k_dflt k_mem) (by k_dflt k_mem) (by k_dflt k_mem) (by k_dflt k_mem) (by k_dflt k_mem) (by k_dflt k_mem) (by k_dflt k_mem) (by k_dflt k_mem) (by k_dflt k_mem) (by k_dflt k_mem) (by k_dflt k_mem) (by k_dflt k_mem) (by k_dflt k_mem)
              clear NN
              (repeat (rename LCg.Off3 _ _ _ _ => zz; clear zz)); (repeat (rename LCg.Off1 _ _ => zz; clear zz)); (repeat (rename InElt _ _ => zz; clear zz)); (repeat (rename LCg.NsObj _ _ => zz; clear zz)); (repeat (rename (_ ∧ _) => zz; clear zz)); (repeat (rename (Value → Shared → Prop) => zz; clear zz)); (repeat (rename (_ = some _) => zz; clear zz))
              as_aux_lemma =>
                repeat' ((fail_if_success (with_reducible show wpAny _ _ (call (.ref 28) _) _ _ _)); (fail_if_success (with_reducible show wpAny _ _ (call (.ref 215) _) _ _ _)); (fail_if_success (with_reducible show wpAny _ _ (compareOp _ (.ref _) (.ref _)) _ _ _)); first | (k_unfold; (try dsimp only)) | (k_end; wrow_close) | walk1 | (dsimp only; walk1) | (leave1; walk_say "STEP leave1"; try dsimp only) | fail "no step")
                all_goals first | contradiction | skip
                walk1
                repeat' ((fail_if_success (with_reducible show wpAny _ _ (call (.ref 28) _) _ _ _)); (fail_if_success (with_reducible show wpAny _ _ (call (.ref 215) _) _ _ _)); (fail_if_success (with_reducible show wpAny _ _ (compareOp _ (.ref _) (.ref _)) _ _ _)); first | (k_unfold; (try dsimp only)) | (k_end; wrow_close) | walk1 | (dsimp only; walk1) | (leave1; walk_say "STEP leave1"; try dsimp only) | fail "no step")
                walk1
                rename (∀ (s' : Shared) (m' : Str → Option Value) (news : List (Addr × Obj)) (ps : Array Value), _) => hend
                refine Mine.endQ (by with_unfolding_all rfl) (hend _ _ _ _ (by k_asm) (by k_asm) (by k_dflt k_mem) (by assumption) (by assumption))
  · as_aux_lemma =>
      have ht0 : TriplesOk (#[] : Array Value).toList := trivial
      repeat' ((fail_if_success (with_reducible show wpAny _ _ (execs (Stmt.Assign [Expr.Name (Str.ofString "form") _] _ _ :: _) _) _ _ _)); first | (k_unfold; (try dsimp only)) | (k_end; wrow_close) | walk1 | (dsimp only; walk1) | (leave1; walk_say "STEP leave1"; try dsimp only) | fail "no step")
      rename_i D7 h7 l13 g' I2 oI2 C2 oC2 D6 m2 h6 tk3 E2 hC2 hx2 off2 ne2 ra2 rb2 rc2 t5 t4 D5 h5 l12 I1 oI1 C1 oC1 D4 m1 h4 tk2 E1 hC1 hx1 off1 ne1 ra1 rb1 rc1 t3 t2 D3 h3 l11 I oI C oC Dd m h2 tk1 E hC hx off ne ra rb rc t1 t0 D1 h1 F1 N1 l1 D h tk F N o1 r1
      have q1 : @Ne Nat D1 65 := Nat.ne_of_gt (by omega)
      have q3 : @Ne Nat D3 65 := Nat.ne_of_gt (by omega)
      have q5 : @Ne Nat D5 65 := Nat.ne_of_gt (by omega)
      have q0 : @Ne Nat z116 65 := Nat.ne_of_gt o94
      have qD : @Ne Nat D 65 := by first | assumption | omega
      have qL : @Ne Nat (s₁.heap.objs.size + 1 + 1 + 1) 65 := by omega
      have M := Mine.newsSub N (news' := [(D, _), (D1, Mine.tupO [.int g6 t1, .int g7 t0]), (D3, Mine.tupO [.int g4 t3, .int g5 t2]), (D5, Mine.tupO [.int g2 t5, .int g3 t4]), (z116, _), (65, _), (s₁.heap.objs.size + 1 + 1 + 1, z110)]) (by
          refine List.forall_mem_cons.mpr ⟨by k_mem, ?_⟩
          refine List.forall_mem_cons.mpr ⟨by k_mem, ?_⟩
          refine List.forall_mem_cons.mpr ⟨by k_mem, ?_⟩
          refine List.forall_mem_cons.mpr ⟨by k_mem, ?_⟩
          refine List.forall_mem_cons.mpr ⟨by k_mem, ?_⟩
          refine List.forall_mem_cons.mpr ⟨by k_mem, ?_⟩
          refine List.forall_mem_cons.mpr ⟨by k_mem, ?_⟩
          exact List.forall_mem_nil _)
      clear l13 ra2 rb2 rc2 ra1 rb1 rc1 ra rb rc r1 hC2 hx2 ne2 off2 l12 hC1 hx1 ne1 off1 l11 hC hx ne off l1 F1 N1 o1 N o95 o96 o97 o98 o91 o92 o93 z69 D7 h7 g' I2 oI2 C2 oC2 D6 m2 h6 tk3 E2 h5 I1 oI1 C1 oC1 D4 m1 h4 tk2 E1 h3 I oI C oC Dd m h2 tk1 E h1 z113 z68
      as_aux_lemma =>
        repeat' ((fail_if_success (with_reducible show wpAny _ _ (execs (Stmt.Assign [Expr.Name (Str.ofString "twelve") _] _ _ :: _) _) _ _ _)); first | (k_unfold; (try dsimp only)) | (k_end; wrow_close) | walk1 | (dsimp only; walk1) | (leave1; walk_say "STEP leave1"; try dsimp only) | fail "no step")
        (repeat (rename LCg.Off3 _ _ _ _ => zz; clear zz)); (repeat (rename LCg.Off1 _ _ => zz; clear zz)); (repeat (rename InElt _ _ => zz; clear zz)); (repeat (rename LCg.NsObj _ _ => zz; clear zz)); (repeat (rename (_ ∧ _) => zz; clear zz)); (repeat (rename (Value → Shared → Prop) => zz; clear zz)); (repeat (rename (_ = some _) => zz; clear zz))
        as_aux_lemma =>
          repeat' ((fail_if_success (with_reducible show wpAny _ _ (execs (Stmt.Assign [Expr.Name (Str.ofString "found") _] _ _ :: _) _) _ _ _)); first | (k_unfold; (try dsimp only)) | (k_end; wrow_close) | walk1 | (dsimp only; walk1) | (leave1; walk_say "STEP leave1"; try dsimp only) | fail "no step")
          all_goals first | contradiction | skip
          rename News _ _ _ _ => NN
          have M := Mine.newsDrop4 NN
          clear NN
          (repeat (rename LCg.Off3 _ _ _ _ => zz; clear zz)); (repeat (rename LCg.Off1 _ _ => zz; clear zz)); (repeat (rename InElt _ _ => zz; clear zz)); (repeat (rename LCg.NsObj _ _ => zz; clear zz)); (repeat (rename (_ ∧ _) => zz; clear zz)); (repeat (rename (Value → Shared → Prop) => zz; clear zz)); (repeat (rename (_ = some _) => zz; clear zz))
          as_aux_lemma =>
            repeat' ((fail_if_success (with_reducible show wpAny _ _ (execs (Stmt.If _ _ _ _ :: _) _) _ _ _)); first | (k_unfold; (try dsimp only)) | (k_end; wrow_close) | walk1 | (dsimp only; walk1) | (leave1; walk_say "STEP leave1"; try dsimp only) | fail "no step")
            rename News _ _ _ _ => NN
            rename Fr _ _ _ _ => FF
            have M := Mine.trimT42 FF NN rfl rfl rfl rfl (by k_dflt k_mem) (by k_dflt k_mem) (by k_dflt k_mem) (by k_dflt k_mem) (by k_dflt k_mem) (by k_dflt k_mem) (by k_dflt k_mem) (by k_dflt k_mem) (by k_dflt k_mem) (by k_dflt k_mem) (by k_dflt k_mem) (by k_dflt k_mem) (by k_dflt k_mem) (by k_dflt k_mem) (by k_dflt k_mem) (by k_dflt k_mem) (by k_dflt k_mem) (by k_dflt k_mem) (by k_dflt k_mem) (by k_dflt k_mem) (by k_dflt k_mem) (by k_dflt k_mem) (by k_dflt k_mem) (by k_dflt k_mem) (by k_dflt k_mem) (by k_dflt k_mem) (by k_dflt k_mem)
            clear NN
            (repeat (rename LCg.Off3 _ _ _ _ => zz; clear zz)); (repeat (rename LCg.Off1 _ _ => zz; clear zz)); (repeat (rename InElt _ _ => zz; clear zz)); (repeat (rename LCg.NsObj _ _ => zz; clear zz)); (repeat (rename (_ ∧ _) => zz; clear zz)); (repeat (rename (Value → Shared → Prop) => zz; clear zz)); (repeat (rename (_ = some _) => zz; clear zz))
            as_aux_lemma =>
              walk1
              repeat' ((fail_if_success (with_reducible show wpAny _ _ (execs (Stmt.For _ _ _ _ _ :: _) _) _ _ _)); first | (k_unfold; (try dsimp only)) | (k_end; wrow_close) | walk1 | (dsimp only; walk1) | (leave1; walk_say "STEP leave1"; try dsimp only) | fail "no step")
              dsimp only
              rename News _ _ _ _ => NN
              rename Fr _ _ _ _ => FF
              have M := Mine.trimF42 FF NN rfl rfl rfl (by k_dflt k_mem) (by k_dflt k_mem) (by k_dflt k_mem) (by k_dflt k_mem) (by k_dflt k_mem) (by k_dflt k_mem) (by k_dflt k_mem) (by k_dflt k_mem) (by k_dflt k_mem) (by k_dflt k_mem) (by k_dflt k_mem) (by k_dflt k_mem) (by k_dflt k_mem) (by k_dflt k_mem) (by k_dflt k_mem) (by k_dflt k_mem) (by k_dflt k_mem)
              clear NN
              (repeat (rename LCg.Off3 _ _ _ _ => zz; clear zz)); (repeat (rename LCg.Off1 _ _ => zz; clear zz)); (repeat (rename InElt _ _ => zz; clear zz)); (repeat (rename LCg.NsObj _ _ => zz; clear zz)); (repeat (rename (_ ∧ _) => zz; clear zz)); (repeat (rename (Value → Shared → Prop) => zz; clear zz)); (repeat (rename (_ = some _) => zz; clear zz))
              as_aux_lemma =>
                walk1
                repeat' ((fail_if_success (with_reducible show wpAny _ _ (execs (Stmt.Assign [Expr.Name (Str.ofString "turned") _] _ _ :: _) _) _ _ _)); first | (k_unfold; (try dsimp only)) | (k_end; wrow_close) | walk1 | (dsimp only; walk1) | (leave1; walk_say "STEP leave1"; try dsimp only) | fail "no step")
                dsimp only
                rename News _ _ _ _ => NN
                rename Fr _ _ _ _ => FF
                dsimp only [envOfC] at FF NN
                have M := Mine.trimF42 FF NN rfl rfl rfl (by k_dflt k_mem) (by k_dflt k_mem) (by k_dflt k_mem) (by k_dflt k_mem) (by k_dflt k_mem) (by k_dflt k_mem) (by k_dflt k_mem) (by k_dflt k_mem) (by k_dflt k_mem) (by k_dflt k_mem) (by k_dflt k_mem) (by k_dflt k_mem) (by k_dflt k_mem) (by k_dflt k_mem) (by k_dflt k_mem) (by k_dflt k_mem) (by k_dflt k_mem)
                clear NN
                (repeat (rename LCg.Off3 _ _ _ _ => zz; clear zz)); (repeat (rename LCg.Off1 _ _ => zz; clear zz)); (repeat (rename InElt _ _ => zz; clear zz)); (repeat (rename LCg.NsObj _ _ => zz; clear zz)); (repeat (rename (_ ∧ _) => zz; clear zz)); (repeat (rename (Value → Shared → Prop) => zz; clear zz)); (repeat (rename (_ = some _) => zz; clear zz)); (repeat (rename (IntsAre _ _) => zz; clear zz))
                as_aux_lemma =>
                  repeat' ((fail_if_success (with_reducible show wpAny _ _ (call (.ref 28) _) _ _ _)); (fail_if_success (with_reducible show wpAny _ _ (call (.ref 215) _) _ _ _)); (fail_if_success (with_reducible show wpAny _ _ (compareOp _ (.ref _) (.ref _)) _ _ _)); first | (k_unfold; (try dsimp only)) | (k_end; wrow_close) | walk1 | (dsimp only; walk1) | (leave1; walk_say "STEP leave1"; try dsimp only) | fail "no step")
                  all_goals first | contradiction | skip
                  walk1
                  repeat' ((fail_if_success (with_reducible show wpAny _ _ (call (.ref 28) _) _ _ _)); (fail_if_success (with_reducible show wpAny _ _ (call (.ref 215) _) _ _ _)); (fail_if_success (with_reducible show wpAny _ _ (compareOp _ (.ref _) (.ref _)) _ _ _)); first | (k_unfold; (try dsimp only)) | (k_end; wrow_close) | walk1 | (dsimp only; walk1) | (leave1; walk_say "STEP leave1"; try dsimp only) | fail "no step")
                  as_aux_lemma =>
                    walk1
                    rename (∀ (s' : Shared) (m' : Str → Option Value) (news : List (Addr × Obj)) (ps : Array Value), _) => hend
                    refine Mine.endQ (by with_unfolding_all rfl) (hend _ _ _ _ (by k_asm) (by k_asm) (by k_dflt k_mem) (by assumption) (by assumption))
end
