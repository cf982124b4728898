import PyProof.Rows.All
import Wide.All
import OpenK.AllK
import Wide.FinOn
import Lean
import PySem.Challenge.RW_ep5008_01
open PySem PySem.W PyProof.Rows
set_option Elab.async false
set_option maxRecDepth 100000
set_option maxHeartbeats 8000000
namespace Mine
open_top hd for PySem.Challenge.rw_ep5008_01
end Mine
open PySem.Calls
set_option maxHeartbeats 4000000
namespace Mine

noncomputable abbrev KK (w : World) : Frag := hd.heap_39 w.params

theorem k_sub (w : World) : mroIn (KK w) 327 (.type "list") = some true := by kernel_rfl
theorem k_subT (w : World) : mroIn (KK w) 327 (.ref 327) = some true := by kernel_rfl
theorem k_noSeq (w : World) : (seqItemTypes.all fun n => subIn (KK w) (.ref 327) (.type n) == some false) = true := by kernel_rfl
theorem k_ga (w : World) : findIn (KK w) (.ref 327) "__getattribute__" = some (some (.builtin "list.__getattribute__")) := by kernel_rfl
theorem k_gattr (w : World) : findIn (KK w) (.ref 327) "__getattr__" = some none := by kernel_rfl
theorem k_append (w : World) : findIn (KK w) (.ref 327) "append" = some (some (.builtin "list.append")) := by kernel_rfl
theorem k_extend (w : World) : findIn (KK w) (.ref 327) "extend" = some (some (.builtin "list.extend")) := by kernel_rfl
theorem k_clear (w : World) : findIn (KK w) (.ref 327) "clear" = some (some (.builtin "list.clear")) := by kernel_rfl
theorem k_len (w : World) : findIn (KK w) (.ref 327) "__len__" = some (some (.builtin "list.__len__")) := by kernel_rfl
theorem k_getitem (w : World) : findIn (KK w) (.ref 327) "__getitem__" = some (some (.builtin "list.__getitem__")) := by kernel_rfl
theorem k_delitem (w : World) : findIn (KK w) (.ref 327) "__delitem__" = some (some (.builtin "list.__delitem__")) := by kernel_rfl
theorem k_iter (w : World) : findIn (KK w) (.ref 327) "__iter__" = some (some (.builtin "list.__iter__")) := by kernel_rfl
theorem k_init (w : World) : findIn (KK w) (.ref 327) "__init__" = some (some (.builtin "list.__init__")) := by kernel_rfl
theorem canon_list_ga : (Manifest.canonical "list.__getattribute__" != "object.__getattribute__") = false := by decide +kernel
theorem md_append : typeOf (.builtin "list.append") = pure (.type "method_descriptor") := by show builtinType _ = _; rw [builtinType_eq_fast]; kernel_rfl
theorem md_extend : typeOf (.builtin "list.extend") = pure (.type "method_descriptor") := by show builtinType _ = _; rw [builtinType_eq_fast]; kernel_rfl
theorem md_clear : typeOf (.builtin "list.clear") = pure (.type "method_descriptor") := by show builtinType _ = _; rw [builtinType_eq_fast]; kernel_rfl

abbrev Tg (d : Addr) (items : Array Value) (n : Nat) : Obj := { cls := .ref 327, dict := some d, data := .seq items n }

structure TagsAt (h : Heap) (a d : Addr) (items : Array Value) (n : Nat) : Prop where
  obj : h.get? a = some (Tg d items n)
  dic : h.get? d = some emptyDict

theorem TagsAt.keeps {h h' : Heap} {a d : Addr} {items : Array Value} {n : Nat} (t : TagsAt h a d items n) (k : ∀ b o, h.get? b = some o → h'.get? b = some o) : TagsAt h' a d items n := ⟨k _ _ t.obj, k _ _ t.dic⟩
theorem TagsAt.ne {h : Heap} {a d : Addr} {items : Array Value} {n : Nat} (t : TagsAt h a d items n) : a ≠ d := fun e => by
  have := t.obj; rw [e, t.dic] at this; cases this

section
variable {prog : Program} {w : World} {A : Around} {E : Value → Shared → Prop} {s : Shared} {a d : Addr} {items : Array Value} {n : Nat}

theorem TagsAt.upd {h : Heap} (t : TagsAt h a d items n) (f : Array Value → Array Value) : ∃ n', TagsAt (h.update a (Obj.mapSeq f)) a d (f items) n' :=
  ⟨_, Heap.get?_update_self _ t.obj rfl, (Heap.get?_update_other _ _ t.ne).trans t.dic⟩

theorem TagsAt.type {M : Model} {h : Heap} (t : TagsAt h a d items n) : Looks M h (typeOf (.ref a)) (.ref 327) := (Looks.ld t.obj).andThen .now
theorem TagsAt.special {M : Model} {h : Heap} (t : TagsAt h a d items n) (X : (KK w).In h) {name : Str} {r : Option Value} (e : findIn (KK w) (.ref 327) name = some r) : Looks M h (specialOf (.ref a) name) r :=
  t.type.andThen (looks_findIn X e)
theorem TagsAt.inst {M : Model} {h : Heap} (t : TagsAt h a d items n) (X : (KK w).In h) : Looks M h (isInstance (.ref a) (.type "list")) true :=
  t.type.andThen (looks_mroIn X (k_sub w))

theorem check_any {M : Model} {i owner n : String} {self : Value} {rest : List Value} {kw : List (Str × Value)} {Q : Unit → Shared → Prop}
    (hk : builtinKind i = some .slot ∨ builtinKind i = some .method) (hs : splitId i = some (owner, n)) (hi : Looks M s.heap (isInstance self (.type owner)) true) (ha : argsOk i ⟨self :: rest, kw⟩) (q : Q () s) :
    wpAny M A (checkBuiltinCall i ⟨self :: rest, kw⟩) Q E s := by
  rcases hk with hk | hk
  · exact check_slot hk hs hi ha q
  · simp only [checkBuiltinCall, hk, hs]
    refine wpAny_bind (hi.here ?_)
    simp only [Bool.not_true, Bool.false_eq_true, if_false]
    cases hsig : Manifest.signature? i with
    | none => exact wpAny_pure q
    | some sig =>
      simp only [argsOk, hsig] at ha
      have h2 : Bind.checkArgs i sig ⟨self :: rest, kw⟩ = pure () := ha
      show wpAny M A (Bind.checkArgs i sig ⟨self :: rest, kw⟩) Q E s
      rw [h2]; exact wpAny_pure q

/-- a built-in of list, on self -/
theorem call_b {id owner nm : String} {B : Builtin} {self : Value} {rest : List Value} {Q : Value → Shared → Prop}
    (kind : builtinKind id = some .slot ∨ builtinKind id = some .method) (split : splitId id = some (owner, nm)) (plain : plainId id = true) (entry : entryFor table id = some B)
    (args : argsOk id ⟨self :: rest, []⟩) (hi : Looks (model prog w) s.heap (isInstance self (.type owner)) true)
    (h : wpAny (model prog w) A.in1 (B ⟨self :: rest, []⟩) (fun fin s' => ∃ v, fin = .done (.ret v) ∧ Q v s') E s) :
    wpAny (model prog w) A (call (.builtin id) (self :: rest)) Q E s := by
  refine wpAny_call (codeAny_call_builtin plain entry (check_any kind split hi args (wpAny_mono h (fun fin s' h' => ?_) fun _ _ h' => h')))
  obtain ⟨v, rfl, hv⟩ := h'; exact hv

theorem tg_callSpecial {M : Model} {name : Str} {id : String} {rest : List Value} {Q : Option Value → Shared → Prop} (X : (KK w).In s.heap) (t : TagsAt s.heap a d items n)
    (e : findIn (KK w) (.ref 327) name = some (some (.builtin id))) (b : ∀ self, bindSpecial (.builtin id) self = pure (.builtin id, [self]))
    (hc : wpAny M A (call (.builtin id) (.ref a :: rest)) (fun v => Q (some v)) E s) : wpAny M A (callSpecial? (.ref a) name rest) Q E s := by
  simp only [callSpecial?]
  refine wpAny_bind ((t.special X e).here ?_)
  simp only [b]
  exact wpAny_holding (wpAny_bind (wpAny_pure (wpAny_bind (wpAny_mono hc (fun v s' h' => wpAny_pure h') fun _ _ h' => h'))))

theorem tg_seqKey {M : Model} {k : Value} {name : Str} {Q : Value → Shared → Prop} (X : (KK w).In s.heap) (t : TagsAt s.heap a d items n) (h : Q k s) : wpAny M A (sequenceKey (.ref a) k name) Q E s := by
  unfold sequenceKey
  refine wpAny_bind (t.type.here ?_)
  refine wpAny_bind ((anyM_none X (k_noSeq w)).here ?_)
  rw [if_pos (show (!false) = true from rfl)]
  exact wpAny_pure h

theorem tg_getMethod {M : Model} {name : Str} {id : String} {pl : Sem Bool} {Q : Value × List Value → Shared → Prop} (X : (KK w).In s.heap) (t : TagsAt s.heap a d items n)
    (e : findIn (KK w) (.ref 327) name = some (some (.builtin id))) (hm : typeOf (.builtin id) = pure (.type "method_descriptor")) (h : Q (.builtin id, [.ref a]) s) : wpAny M A (getMethod (.ref a) name pl) Q E s := by
  unfold getMethod
  refine wpAny_bind ((t.special X (k_ga w)).here ?_)
  dsimp only
  rw [canon_list_ga, if_neg (by decide)]
  refine wpAny_bind ((t.special X (k_gattr w)).here ?_)
  refine wpAny_bind ((t.special X e).here (wpAny_bind (wpAny_of_eq hm ?_)))
  rw [if_neg (by decide +kernel)]
  refine wpAny_bind (wpAny_loadPart t.obj ?_)
  refine wpAny_bind (wpAny_bind (wpAny_loadPart t.dic ?_))
  rw [nsLook_of (r := none) rfl]
  exact wpAny_pure (wpAny_bind (wpAny_rule (wpAny_pure h)))

/-! bodies of list's built-ins, whatever the class -/
section
variable {o : Obj} (ho : s.heap.get? a = some o) (hd : o.data = .seq items n)
include ho hd
theorem b_append {x : Value} {Q : Fin → Shared → Prop} (hsz : items.size ≤ sizeLine)
    (hq : Q (.done (.ret .none)) { s with heap := s.heap.update a (Obj.mapSeq (·.push x)) }) : wpAny (model prog w) A (Builtin.«list.append» ⟨[.ref a, x], []⟩) Q E s := by
  obtain ⟨hp, g, d, tk, os⟩ := s
  have hz' : (items.push x).size ≤ sizeLine + 1 := by rw [Array.size_push]; omega
  wp_walk using (wpAny_updateSeq ho hd (hz := hsz) (_hz' := hz'))
  exact hq
theorem b_items {Q : Array Value → Shared → Prop} {M : Model} (hq : Q items s) : wpAny M A (Builtin.List.listItems (.ref a)) Q E s := by
  unfold Builtin.List.listItems
  exact wpAny_bind (wpAny_seqItems ho hd (wpAny_pure hq))
theorem b_clear {Q : Fin → Shared → Prop} (hsz : items.size ≤ sizeLine)
    (hq : Q (.done (.ret .none)) { s with heap := s.heap.update a (Obj.mapSeq (fun _ => #[])) }) : wpAny (model prog w) A (Builtin.«list.clear» ⟨[.ref a], []⟩) Q E s := by
  show wpAny _ _ (do let old ← Builtin.List.listItems (.ref a); Builtin.List.listUpdate (.ref a) (fun _ => #[]); letGo old.toList.reverse; ret .none) _ _ s
  refine wpAny_bind (b_items ho hd ?_)
  refine wpAny_bind (m := Builtin.List.listUpdate (.ref a) (fun _ => #[])) (wpAny_updateSeq ho hd ?_ (hz := hsz) (_hz' := by simp))
  exact wpAny_bind (wpAny_letGo (wpAny_pure hq))
theorem b_len {Q : Fin → Shared → Prop} (hq : Q (.done (.ret (.int items.size s.toks))) { s with toks := s.toks + 1 }) : wpAny (model prog w) A (Builtin.«list.__len__» ⟨[.ref a], []⟩) Q E s := by
  show wpAny _ _ (do retInt (← seqSize a)) _ _ s
  unfold seqSize
  refine wpAny_bind (wpAny_bind (wpAny_loadPart ho ?_))
  rw [hd]
  exact wpAny_pure (wpAny_bind (wpAny_mkInt (wpAny_pure hq)))
theorem b_iter {Q : Fin → Shared → Prop} (hq : Q (.done (.ret (.ref s.heap.objs.size))) { s with heap := s.heap.push { cls := .type "list_iterator", data := .fields #[.ref a, .int 0 0] } }) :
    wpAny (model prog w) A (Builtin.«list.__iter__» ⟨[.ref a], []⟩) Q E s := by
  show wpAny _ _ (do ret (← newFields "list_iterator" [.ref a, rawInt 0])) _ _ s
  exact wpAny_bind (wpAny_newObj_type (wpAny_pure hq))
theorem b_getInt {k : Int} {t : Tok} {x : Value} {Q : Fin → Shared → Prop} (h0 : 0 ≤ k) (hfit : k < 2 ^ 63) (hx : items[k.toNat]? = some x) (hq : Q (.done (.ret x)) s) :
    wpAny (model prog w) A (Builtin.«list.__getitem__» ⟨[.ref a, .int k t], []⟩) Q E s := by
  show wpAny _ _ (Builtin.List.listSubscript? (.int k t) >>= _) _ _ s
  refine wpAny_bind (wpAny_listSubscript_int (fitsIndex_of h0 hfit) ?_)
  clear hfit
  obtain ⟨j, rfl⟩ := Int.eq_ofNat_of_zero_le h0
  have hx' : items[j]? = some x := hx
  show wpAny _ _ ((seqItemAt a j >>= fun r => pure (r.map (j, ·))) >>= _) _ _ s
  refine wpAny_bind (wpAny_bind (wpAny_seqItemAt ho hd (wpAny_pure ?_)))
  rw [hx']
  exact wpAny_bind (wpAny_pure (wpAny_pure hq))
end
end
end Mine

namespace Mine

theorem del_pick {α : Type} (i j : Nat) (sel : Nat → Bool) (hsel : ∀ k, sel k = (decide (i ≤ k) && decide (k < j))) (hij : i ≤ j) :
    ∀ (xs : List α) (m : Nat), ((xs.zipIdx m).filterMap fun x => if sel x.2 = true then none else some x.1) = xs.take (i - m) ++ xs.drop (j - m)
  | [], m => by simp
  | x :: r, m => by
    rw [List.zipIdx_cons, List.filterMap_cons, del_pick i j sel hsel hij r (m + 1)]
    dsimp only
    rw [hsel]
    by_cases h1 : m < i
    · have e1 : i - m = (i - (m + 1)) + 1 := by omega
      have e2 : j - m = (j - (m + 1)) + 1 := by omega
      have : (decide (i ≤ m) && decide (m < j)) = false := by simp; omega
      rw [this, e1, e2]
      simp
    · by_cases h2 : m < j
      · have e1 : i - m = 0 := by omega
        have e1' : i - (m + 1) = 0 := by omega
        have e2 : j - m = (j - (m + 1)) + 1 := by omega
        have : (decide (i ≤ m) && decide (m < j)) = true := by simp; omega
        rw [this, e1, e1', e2]
        simp
      · have e1 : i - m = 0 := by omega
        have e1' : i - (m + 1) = 0 := by omega
        have e2 : j - m = 0 := by omega
        have e2' : j - (m + 1) = 0 := by omega
        have : (decide (i ≤ m) && decide (m < j)) = false := by simp; omega
        rw [this, e1, e1', e2, e2']
        simp

section
variable {prog : Program} {w : World} {A : Around} {E : Value → Shared → Prop} {s : Shared} {a d : Addr} {items : Array Value} {n : Nat}

theorem upd_letGo {M : Model} {o : Obj} (ho : s.heap.get? a = some o) (hd : o.data = .seq items n) {f : Array Value → Array Value} {l : List Value} {Q : Fin → Shared → Prop} (hsz : items.size ≤ sizeLine) (hz' : (f items).size ≤ sizeLine + 1)
    (hq : Q (.done (.ret .none)) { s with heap := s.heap.update a (Obj.mapSeq f) }) : wpAny M A (do Builtin.List.listUpdate (.ref a) f; letGo l; ret .none) Q E s :=
  wpAny_bind (m := Builtin.List.listUpdate (.ref a) f) (wpAny_updateSeq ho hd (wpAny_bind (wpAny_letGo (wpAny_pure hq))) (hz := hsz) (_hz' := hz'))

theorem sel_eq (i j : Nat) (k : Nat) : (if (1 : Int) > 0 then decide ((i : Int) ≤ k) && decide ((k : Int) < j) && ((k : Int) - i) % 1 == 0 else decide ((j : Int) < k) && decide ((k : Int) ≤ i) && ((i : Int) - k) % (-1) == 0) = (decide (i ≤ k) && decide (k < j)) := by
  rw [if_pos (by decide)]
  simp [Int.emod_one]

/-- the bounds of a slice, read -/
theorem b_parts {M : Model} {sl : Addr} {vl vu : Value} {lo hi : Option Int} {Q : Value × Value × Value → Shared → Prop} (hs : s.heap.IsSliceOf sl vl vu .none) (pl : IsPart vl lo) (pu : IsPart vu hi)
    (hq : Q (rawPart lo, rawPart hi, .none) s) : wpAny M A (Builtin.List.listSliceParts (.ref sl)) Q E s := by
  obtain ⟨os, hos, hcs, hds⟩ := id hs
  rw [listSliceParts_eq]
  refine wpAny_bind (wpAny_field hos hds (x := .none) rfl (wpAny_bind (wpAny_listPart .none ?_)))
  rw [if_neg (show ¬ ((rawPart none == rawInt 0) = true) from Bool.false_ne_true)]
  refine wpAny_bind (wpAny_field hos hds (x := vl) rfl (wpAny_bind (wpAny_listPart pl ?_)))
  exact wpAny_bind (wpAny_field hos hds (x := vu) rfl (wpAny_bind (wpAny_listPart pu (wpAny_pure hq))))
theorem b_noIndex {M : Model} {sl : Addr} {vl vu : Value} {Q : Option Int → Shared → Prop} (hs : s.heap.IsSliceOf sl vl vu .none) (hq : Q none s) : wpAny M A (Builtin.List.listSubscript? (.ref sl)) Q E s := by
  obtain ⟨os, hos, hcs, hds⟩ := id hs
  unfold Builtin.List.listSubscript?
  refine wpAny_bind (wpAny_specialOf (T := "slice") ⟨os, hos, hcs⟩ slice_no_index ?_)
  simp only [Option.isNone_none, if_true]
  exact wpAny_pure hq

section
variable {o : Obj} (ho : s.heap.get? a = some o) (hd : o.data = .seq items n)
include ho hd
theorem b_getSlice {sl : Addr} {vl vu : Value} {lo hi : Option Int} {Q : Fin → Shared → Prop} (hs : s.heap.IsSliceOf sl vl vu .none) (pl : IsPart vl lo) (pu : IsPart vu hi) (hsz : items.size ≤ sizeLine)
    (hq : Q (.done (.ret (.ref s.heap.objs.size))) { s with heap := s.heap.push { cls := .type "list", data := .seq (slicePick items lo hi none) } }) :
    wpAny (model prog w) A (Builtin.«list.__getitem__» ⟨[.ref a, .ref sl], []⟩) Q E s := by
  show wpAny _ _ (Builtin.List.listSubscript? (.ref sl) >>= _) _ _ s
  refine wpAny_bind (b_noIndex hs ?_)
  obtain ⟨os, hos, hcs, hds⟩ := id hs
  refine wpAny_bind (m := typeOf (.ref sl)) (wpAny_typeOf (T := "slice") ⟨os, hos, hcs⟩ ?_)
  rw [if_neg (by decide)]
  refine wpAny_bind (b_parts hs pl pu ?_)
  refine wpAny_bind (m := Builtin.List.listItems (.ref a)) (b_items ho hd ?_)
  refine wpAny_bind (wpAny_of_eq (sliceIndices_raw lo hi none items.size (by simp)) ?_)
  exact wpAny_bind (wpAny_newObj_type (wpAny_pure hq) (Nat.le_trans (slicePick_size_le items lo hi none) hsz))

theorem b_delSlice {sl : Addr} {vl vu : Value} {i j : Nat} {Q : Fin → Shared → Prop} (hs : s.heap.IsSliceOf sl vl vu .none) (pl : IsPart vl (some i)) (pu : IsPart vu (some j)) (hi : i ≤ j) (hj : j ≤ items.size) (hsz : items.size ≤ sizeLine)
    (hq : ∀ f, f items = (items.toList.take i ++ items.toList.drop j).toArray → Q (.done (.ret .none)) { s with heap := s.heap.update a (Obj.mapSeq f) }) :
    wpAny (model prog w) A (Builtin.«list.__delitem__» ⟨[.ref a, .ref sl], []⟩) Q E s := by
  show wpAny _ _ (Builtin.List.listSubscript? (.ref sl) >>= _) _ _ s
  refine wpAny_bind (b_noIndex hs ?_)
  obtain ⟨os, hos, hcs, hds⟩ := id hs
  refine wpAny_bind (m := typeOf (.ref sl)) (wpAny_typeOf (T := "slice") ⟨os, hos, hcs⟩ ?_)
  rw [if_neg (by decide)]
  refine wpAny_bind (b_parts hs pl pu ?_)
  refine wpAny_bind (m := Builtin.List.listItems (.ref a)) (b_items ho hd ?_)
  refine wpAny_bind (wpAny_of_eq (sliceIndices_raw (some i) (some j) none items.size (by simp)) ?_)
  have eb : sliceBounds (some (i : Int)) (some (j : Int)) none items.size = ((i : Int), (j : Int), 1) := by
    simp only [sliceBounds, Option.getD_none]
    have h1 : ¬ ((i : Int) < 0) := by omega
    have h2 : ¬ ((j : Int) < 0) := by omega
    simp only [h1, h2, if_false, show (1 : Int) > 0 by decide, if_true]
    congr 1
    · omega
    · congr 1; omega
  rw [eb]
  refine wpAny_bind (wpAny_rule ?_)
  have key := del_pick i j (sel := fun k => (if (1 : Int) > 0 then decide ((i : Int) ≤ k) && decide ((k : Int) < j) && ((k : Int) - i) % 1 == 0 else decide ((j : Int) < k) && decide ((k : Int) ≤ i) && ((i : Int) - k) % (-1) == 0)) (sel_eq i j) hi items.toList 0
  refine upd_letGo ho hd hsz ?_ (hq _ ?_)
  · refine Nat.le_trans (Nat.le_of_eq (congrArg (fun l : List Value => l.toArray.size) key)) ?_
    simp
    omega
  · exact congrArg List.toArray key
end
end
end Mine

namespace Mine

theorem kd_append : builtinKind "list.append" = some .slot ∨ builtinKind "list.append" = some .method := by decide +kernel
theorem kd_extend : builtinKind "list.extend" = some .slot ∨ builtinKind "list.extend" = some .method := by decide +kernel
theorem kd_clear : builtinKind "list.clear" = some .slot ∨ builtinKind "list.clear" = some .method := by decide +kernel
theorem kd_len : builtinKind "list.__len__" = some .slot ∨ builtinKind "list.__len__" = some .method := by decide +kernel
theorem kd_getitem : builtinKind "list.__getitem__" = some .slot ∨ builtinKind "list.__getitem__" = some .method := by decide +kernel
theorem kd_delitem : builtinKind "list.__delitem__" = some .slot ∨ builtinKind "list.__delitem__" = some .method := by decide +kernel
theorem kd_iter : builtinKind "list.__iter__" = some .slot ∨ builtinKind "list.__iter__" = some .method := by decide +kernel
theorem sp_append : splitId "list.append" = some ("list", "append") := by decide +kernel
theorem sp_extend : splitId "list.extend" = some ("list", "extend") := by decide +kernel
theorem sp_clear : splitId "list.clear" = some ("list", "clear") := by decide +kernel
theorem sp_len : splitId "list.__len__" = some ("list", "__len__") := by decide +kernel
theorem sp_getitem : splitId "list.__getitem__" = some ("list", "__getitem__") := by decide +kernel
theorem sp_delitem : splitId "list.__delitem__" = some ("list", "__delitem__") := by decide +kernel
theorem sp_iter : splitId "list.__iter__" = some ("list", "__iter__") := by decide +kernel

section
variable {prog : Program} {w : World} {A : Around} {E : Value → Shared → Prop} {s : Shared} {a d : Addr} {items : Array Value} {n : Nat}

theorem b_extend {o ob : Obj} {b : Addr} {ys : Array Value} {m : Nat} (ho : s.heap.get? a = some o) (hd : o.data = .seq items n) (hob : s.heap.get? b = some ob) (hcb : ob.cls = .type "list") (hdb : ob.data = .seq ys m)
    {Q : Fin → Shared → Prop} (hsz : items.size + ys.size ≤ sizeLine)
    (hq : Q (.done (.ret .none)) { s with heap := s.heap.update a (Obj.mapSeq (· ++ ys)) }) : wpAny (model prog w) A (Builtin.«list.extend» ⟨[.ref a, .ref b], []⟩) Q E s := by
  show wpAny _ _ (Builtin.List.listExtendWith (.ref a) (.ref b) .none) _ _ s
  unfold Builtin.List.listExtendWith
  refine wpAny_bind (wpAny_typeOf (T := "list") ⟨ob, hob, hcb⟩ ?_)
  have h1 : (Builtin.List.listSameRef (.ref a) (.ref b) || Value.type "list" == Value.type "list" || Value.type "list" == Value.type "tuple") = true := by simp
  simp only [h1, if_true]
  refine wpAny_bind (b_items hob hdb (wpAny_bind (b_items ho hd ?_)))
  have h2 : (!items.isEmpty && Builtin.List.listTooLong (items.size + ys.size)) = false := by
    simp only [Builtin.List.listTooLong, Bool.and_eq_false_iff, decide_eq_false_iff_not]
    exact .inr (by omega)
  rw [h2]
  simp only [Bool.false_eq_true, if_false]
  refine wpAny_bind (m := Builtin.List.listUpdate (.ref a) (· ++ ys)) (wpAny_updateSeq ho hd (wpAny_pure hq) (hz := by omega) (_hz' := by simp only [Array.size_append]; omega))

/-! ### Tags: its methods and operators -/
variable (X : (KK w).In s.heap) (t : TagsAt s.heap a d items n)
include X t
theorem tg_append {x : Value} {Q : Value → Shared → Prop} (hsz : items.size ≤ sizeLine) (hq : Q .none { s with heap := s.heap.update a (Obj.mapSeq (·.push x)) }) :
    wpAny (model prog w) A (call (.builtin "list.append") [.ref a, x]) Q E s :=
  call_b kd_append sp_append F.slot_list_append.plain F.entry_list_append (F.args_list_append_2 _ _) (t.inst X) (b_append t.obj rfl hsz ⟨_, rfl, hq⟩)
theorem tg_clear {Q : Value → Shared → Prop} (hsz : items.size ≤ sizeLine) (hq : Q .none { s with heap := s.heap.update a (Obj.mapSeq (fun _ => #[])) }) :
    wpAny (model prog w) A (call (.builtin "list.clear") [.ref a]) Q E s :=
  call_b kd_clear sp_clear F.slot_list_clear.plain F.entry_list_clear (F.args_list_clear_1 _) (t.inst X) (b_clear t.obj rfl hsz ⟨_, rfl, hq⟩)
theorem tg_extend {ob : Obj} {b : Addr} {ys : Array Value} {m : Nat} {Q : Value → Shared → Prop} (hob : s.heap.get? b = some ob) (hcb : ob.cls = .type "list") (hdb : ob.data = .seq ys m) (hsz : items.size + ys.size ≤ sizeLine)
    (hq : Q .none { s with heap := s.heap.update a (Obj.mapSeq (· ++ ys)) }) :
    wpAny (model prog w) A (call (.builtin "list.extend") [.ref a, .ref b]) Q E s :=
  call_b kd_extend sp_extend F.slot_list_extend.plain F.entry_list_extend (F.args_list_extend_2 _ _) (t.inst X) (b_extend t.obj rfl hob hcb hdb hsz ⟨_, rfl, hq⟩)

theorem tg_getInt {k : Int} {u : Tok} {x : Value} {Q : Value → Shared → Prop} (h0 : 0 ≤ k) (hfit : k < 2 ^ 63) (hx : items[k.toNat]? = some x) (hq : Q x s) : wpAny (model prog w) A (getItem (.ref a) (.int k u)) Q E s := by
  unfold getItem
  refine wpAny_holding (wpAny_bind (tg_seqKey X t ?_))
  refine wpAny_bind (tg_callSpecial X t (k_getitem w) slot_list_getitem.bind ?_)
  exact call_b kd_getitem sp_getitem slot_list_getitem.plain entry_list_getitem (args_list_getitem _ _) (t.inst X) (b_getInt t.obj rfl h0 hfit hx ⟨_, rfl, wpAny_pure hq⟩)
theorem tg_getSlice {sl : Addr} {vl vu : Value} {lo hi : Option Int} {Q : Value → Shared → Prop} (hs : s.heap.IsSliceOf sl vl vu .none) (pl : IsPart vl lo) (pu : IsPart vu hi) (hsz : items.size ≤ sizeLine)
    (hq : Q (.ref s.heap.objs.size) { s with heap := s.heap.push { cls := .type "list", data := .seq (slicePick items lo hi none) } }) : wpAny (model prog w) A (getItem (.ref a) (.ref sl)) Q E s := by
  unfold getItem
  refine wpAny_holding (wpAny_bind (tg_seqKey X t ?_))
  refine wpAny_bind (tg_callSpecial X t (k_getitem w) slot_list_getitem.bind ?_)
  exact call_b kd_getitem sp_getitem slot_list_getitem.plain entry_list_getitem (args_list_getitem _ _) (t.inst X) (b_getSlice t.obj rfl hs pl pu hsz ⟨_, rfl, wpAny_pure hq⟩)
theorem tg_delSlice {sl : Addr} {vl vu : Value} {i j : Nat} {Q : Unit → Shared → Prop} (hs : s.heap.IsSliceOf sl vl vu .none) (pl : IsPart vl (some i)) (pu : IsPart vu (some j)) (hi : i ≤ j) (hj : j ≤ items.size) (hsz : items.size ≤ sizeLine)
    (hq : ∀ f, f items = (items.toList.take i ++ items.toList.drop j).toArray → Q () { s with heap := s.heap.update a (Obj.mapSeq f) }) : wpAny (model prog w) A (delItem (.ref a) (.ref sl)) Q E s := by
  unfold delItem
  refine wpAny_holding (wpAny_bind (tg_seqKey X t ?_))
  refine wpAny_bind (tg_callSpecial X t (k_delitem w) F.slot_list_delitem.bind ?_)
  exact call_b kd_delitem sp_delitem F.slot_list_delitem.plain F.entry_list_delitem (F.args_list_delitem_2 _ _) (t.inst X) (b_delSlice t.obj rfl hs pl pu hi hj hsz fun f hf => ⟨_, rfl, wpAny_pure (hq f hf)⟩)
theorem tg_getMethod_ {name : Str} {id : String} {pl : Sem Bool} {Q : Value × List Value → Shared → Prop}
    (e : findIn (KK w) (.ref 327) name = some (some (.builtin id))) (hm : typeOf (.builtin id) = pure (.type "method_descriptor")) (h : Q (.builtin id, [.ref a]) s) : wpAny (model prog w) A (getMethod (.ref a) name pl) Q E s :=
  tg_getMethod X t e hm h

theorem tg_tail {value slice : Expr} {i : Value} {ops : List Value} {Q : Value → Shared → Prop} (hg : wpAny (model prog w) A (getItem (.ref a) i) Q E s)
    (hs : subscripted slice false (.ref a) i = operate ops (getItem (.ref a) i)) : wpAny (model prog w) A (subscriptTail value slice (.ref a) i) Q E s := by
  unfold subscriptTail
  refine wpAny_bind ?_
  unfold getitemInPython
  refine wpAny_bind ((t.special X (k_getitem w)).here ?_)
  refine wpAny_pure ?_
  rw [hs]
  exact wpAny_bind (wpAny_operating (wpAny_mono hg (fun r s₃ h₃ => wpAny_bind (wpAny_letTemporaryGo (wpAny_pure h₃))) fun _ _ x => x))

theorem tg_len {Q : Value → Shared → Prop} (hsz : items.size ≤ sizeLine) (hq : Q (.int items.size (s.toks + 1)) { s with toks := s.toks + 2 }) : wpAny (model prog w) A (call (.builtin "len") [.ref a]) Q E s := by
  refine Calls.call_function_entry kind_len plain_len entry_len (args_len1 _) ?_
  unfold Builtin.«len»
  refine wpAny_bind (m := oneArg "len" _) (wpAny_pure ?_)
  refine wpAny_bind (m := callSpecial? (.ref a) (Str.ofString "__len__")) (tg_callSpecial X t (k_len w) F.slot_list_len.bind
    (call_b kd_len sp_len F.slot_list_len.plain F.entry_list_len (F.args_list_len_1 _) (t.inst X) (b_len t.obj rfl ⟨_, rfl, ?_⟩)))
  show wpAny _ _ _ _ _ { s with toks := s.toks + 1 }
  refine wpAny_bind (wpAny_holding (wpAny_pure ?_))
  refine wpAny_bind (wpAny_letGo ?_)
  have h1 : ¬ ((items.size : Int) < 0) := by omega
  have h2 : ¬ ((items.size : Int) ≥ 2 ^ 63) := by rw [sizeLine_eq] at hsz; omega
  show wpAny _ _ (if (items.size : Int) < 0 then _ else _) _ _ _
  rw [if_neg h1]
  show wpAny _ _ (if (items.size : Int) ≥ 2 ^ 63 then _ else _) _ _ _
  rw [if_neg h2]
  exact wpAny_bind (wpAny_mkInt (wpAny_pure ⟨_, rfl, hq⟩))

omit X t in
theorem tg_ifBound {M : Model} {name : Str} {id : String} {refuse : Sem Value} {Q : Option Value → Shared → Prop} (X : (KK w).In s.heap) (t : TagsAt s.heap a d items n)
    (e : findIn (KK w) (.ref 327) name = some (some (.builtin id))) (b : ∀ self, bindSpecial (.builtin id) self = pure (.builtin id, [self]))
    (hc : wpAny M A (call (.builtin id) [.ref a]) (fun v => Q (some v)) E s) : wpAny M A (callSpecialIfBoundUnlessNone? (.ref a) name refuse) Q E s := by
  simp only [callSpecialIfBoundUnlessNone?, bindSpecialIfBound?]
  refine wpAny_holding (wpAny_bind (wpAny_bind ((t.special X e).here ?_)))
  simp only [b]
  refine wpAny_bind (wpAny_askSetting (wpAny_ite ?_))
  have fin : wpAny M A (if (Value.builtin id == Value.none) = true then (refuse >>= fun v => pure (some v)) else (call (.builtin id) [.ref a] >>= fun v => pure (some v))) Q E s := by
    simp only [builtin_beq_none, Bool.false_eq_true, if_false]
    exact wpAny_bind (wpAny_mono hc (fun v s' h' => wpAny_pure h') fun _ _ h' => h')
  split
  · exact wpAny_bind (wpAny_pure (wpAny_pure fin))
  · exact wpAny_tryCatch (wpAny_bind (wpAny_pure (wpAny_pure fin)))

theorem tg_pyIter {Q : Value → Shared → Prop} (hQ : Q (.ref s.heap.objs.size) { s with heap := s.heap.push { cls := .type "list_iterator", data := .fields #[.ref a, .int 0 0] } }) :
    wpAny (model prog w) A (pyIter (.ref a)) Q E s := by
  unfold pyIter
  refine wpAny_bind ((t.special X (k_iter w)).here ?_)
  show wpAny _ _ (callSpecialIfBoundUnlessNone? (.ref a) "__iter__" _ >>= _) _ _ _
  refine wpAny_bind (tg_ifBound X t (k_iter w) slot_list_iter.bind ?_)
  refine call_b kd_iter sp_iter slot_list_iter.plain entry_list_iter (args_list_iter _) (t.inst X) (b_iter (items := items) (n := n) t.obj rfl ⟨_, rfl, ?_⟩)
  exact wpAny_bind (wpAny_specialOf (T := "list_iterator") ⟨_, Heap.get?_push_size _ rfl, rfl⟩ slot_listiter_next.lookup (wpAny_pure hQ))
omit X t in
/-- the next item of a list iterator, whatever the class of the list -/
theorem li_next {it l : Addr} {ol : Obj} {i : Nat} {x : Value} {Q : Option Value → Shared → Prop} (hit : s.heap.IsListIter it l i)
    (hol : s.heap.get? l = some ol) (hdl : ol.data = .seq items n) (hx : items[i]? = some x)
    (hQ : ∀ h', h'.IsListIter it l (i + 1) → Heap.SameBut it s.heap h' → Q (some x) { s with heap := h' }) :
    wpAny (model prog w) A (pyNext (.ref it)) Q E s := by
  obtain ⟨o, ho, hc, hd⟩ := id hit
  unfold pyNext
  refine wpAny_bind (wpAny_attempt (wpAny_callSpecial?_slot (name := Str.ofString "__next__") hit.typeIs slot_listiter_next
    (wpAny_call_entry slot_listiter_next hit.typeIs entry_listiter_next ?_ (args_listiter_next _))))
  show wpAny _ _ (field (.ref it) 0 >>= _) _ _ s
  refine wpAny_bind (wpAny_field ho hd (x := .ref l) rfl ?_)
  show wpAny _ _ (if (Value.ref l == Value.none) = true then _ else _) _ _ s
  rw [if_neg (show ¬ ((Value.ref l == Value.none) = true) from Bool.false_ne_true)]
  show wpAny _ _ (field (.ref it) 1 >>= _) _ _ s
  refine wpAny_bind (wpAny_field ho hd (x := .int i 0) rfl ?_)
  show wpAny _ _ (seqItems? (.ref l) >>= _) _ _ s
  refine wpAny_bind (wpAny_seqItems hol hdl ?_)
  simp only [Int.toNat_natCast, hx]
  refine wpAny_bind (wpAny_setField ho hd (by simp) (wpAny_pure ⟨x, rfl, wpAny_pure (hQ _ ?_ (Heap.SameBut.update ..))⟩))
  exact ⟨_, Heap.get?_update_self _ ho (Obj.isFreed_of_fields (Obj.data_mapFields hd _)), (Obj.cls_mapFields ..).trans hc, by
    rw [Obj.data_mapFields hd]; simp [rawInt]⟩
omit X t in
theorem li_end {it l : Addr} {ol : Obj} {i : Nat} {Q : Option Value → Shared → Prop} (hh : A.handled = none)
    (hit : s.heap.IsListIter it l i) (hol : s.heap.get? l = some ol) (hdl : ol.data = .seq items n) (hx : items[i]? = none)
    (hQ : ∀ h', Heap.ExtBut it s.heap h' → Q none { s with heap := h' }) : wpAny (model prog w) A (pyNext (.ref it)) Q E s := by
  obtain ⟨o, ho, hc, hd⟩ := id hit
  unfold pyNext
  refine wpAny_bind (wpAny_attempt (wpAny_callSpecial?_slot (name := Str.ofString "__next__") hit.typeIs slot_listiter_next
    (wpAny_call_entry slot_listiter_next hit.typeIs entry_listiter_next ?_ (args_listiter_next _))))
  show wpAny _ _ (field (.ref it) 0 >>= _) _ _ s
  refine wpAny_bind (wpAny_field ho hd (x := .ref l) rfl ?_)
  show wpAny _ _ (if (Value.ref l == Value.none) = true then _ else _) _ _ s
  rw [if_neg (show ¬ ((Value.ref l == Value.none) = true) from Bool.false_ne_true)]
  show wpAny _ _ (field (.ref it) 1 >>= _) _ _ s
  refine wpAny_bind (wpAny_field ho hd (x := .int i 0) rfl ?_)
  show wpAny _ _ (seqItems? (.ref l) >>= _) _ _ s
  refine wpAny_bind (wpAny_seqItems hol hdl ?_)
  simp only [Int.toNat_natCast, hx]
  refine wpAny_bind (wpAny_rule (wpAny_bind (wpAny_setField ho hd (by simp) ?_)))
  show wpAny _ _ (newExc (.type "StopIteration") [] >>= _) _ _ _
  refine wpAny_bind ?_
  simp only [newExc, newTuple]
  refine wpAny_bind (wpAny_newObj_type ?_ (by size_fits))
  refine wpAny_bind (m := firstArgMember _ _) (wpAny_of_eq (a := Value.none) (by first | rfl | (simp only [firstArgMember]; rfl)) ?_)
  refine wpAny_newObj_type ?_ (by size_fits)
  simp only [raiseNew]
  refine wpAny_bind (wpAny_handled ?_)
  rw [show A.in1.handled = none from hh]
  refine wpAny_bind (wpAny_pure (wpAny_throw ?_))
  refine wpAny_bind (wpAny_isInstance (T := "StopIteration") (b := true) ⟨_, Heap.get?_push_size _ rfl, rfl⟩ isSubtype_stop ?_)
  exact wpAny_pure (hQ _ (((Heap.SameBut.update ..).extBut.push _).push _))
end
end Mine

namespace Mine

def tgIn (K : Frag) : Bool := match K.lookup 327 with
  | some ⟨_, _, .cls cd, sl⟩ => !cd.hasDel && (sl.toList[4]?).join == some (.builtin "list.__new__") && !cd.mro.isEmpty
  | _ => false
theorem k_tg (w : World) : tgIn (KK w) = true := by kernel_rfl
theorem k_call (w : World) : specialIn (KK w) (.ref 327) "__call__" = some (some (.builtin "type.__call__")) := by kernel_rfl
theorem k_type (w : World) : instIn (KK w) (.ref 327) (.type "type") = some true := by kernel_rfl

structure TgMakes (M : Model) (h : Heap) : Prop where
  obj : ∃ oc od cd sl, h.get? 327 = some ⟨oc, od, .cls cd, sl⟩ ∧ cd.hasDel = false ∧ cd.mro.isEmpty = false
  made : Looks M h (Bind.madeBy (.ref 327)) (some "list.__new__")
  base : Looks M h (Bind.staticBase (.ref 327)) (.ref 327)
  isT : Looks M h (isType (.ref 327)) true
  sub : Looks M h (isSubtype (.ref 327) (.type "list")) true
  self : Looks M h (isSubtype (.ref 327) (.ref 327)) true
  call : Looks M h (specialOf (.ref 327) "__call__") (some (.builtin "type.__call__"))
  typ : Looks M h (isInstance (.ref 327) (.type "type")) true
  init : Looks M h (typeLookup (.ref 327) "__init__") (some (.builtin "list.__init__"))

theorem tgMakes {w : World} {M : Model} {h : Heap} (X : (KK w).In h) : TgMakes M h := by
  have e := k_tg w
  unfold tgIn at e
  split at e
  · rename_i oc od cd sl ho
    simp only [Bool.and_eq_true, Bool.not_eq_true', beq_iff_eq] at e
    obtain ⟨⟨e2, e3⟩, e4⟩ := e
    have hc : clsIn (KK w) 327 = some cd := by unfold clsIn; rw [ho]
    have hm : Looks M h (mroOf (.ref 327)) cd.mro := (looks_clsIn X hc).andThen .now
    obtain ⟨c, l, hl⟩ : ∃ c l, cd.mro = c :: l := by cases q : cd.mro with | nil => rw [q] at e4; cases e4 | cons c l => exact ⟨c, l, rfl⟩
    have made : Looks M h (Bind.madeBy (.ref 327)) (some "list.__new__") := by
      intro A Q E s k q
      unfold Bind.madeBy
      refine wpAny_bind (hm A _ E s k ?_)
      rw [hl, List.forIn_cons]
      refine wpAny_bind (wpAny_bind (wpAny_bind (wpAny_bind (wpAny_loadPart (k _ _ (X _ _ ho)) (wpAny_pure ?_)))))
      dsimp only
      rw [← Array.getElem?_toList, e3]
      exact wpAny_pure (wpAny_pure (wpAny_pure q))
    refine ⟨⟨oc, od, cd, sl, X _ _ ho, e2, e4⟩, made, ?_, ?_, looks_mroIn X (k_sub w), looks_mroIn X (k_subT w), looks_specialIn X (k_call w), looks_instIn X (k_type w), looks_findIn X (k_init w)⟩
    · intro A Q E s k q
      unfold Bind.staticBase
      refine wpAny_bind (hm A _ E s k ?_)
      rw [hl, List.forIn_cons]
      exact wpAny_bind (wpAny_bind (wpAny_bind (made A _ E s k (wpAny_pure (wpAny_pure (wpAny_pure q))))))
    · exact (Looks.ld (X _ _ ho)).andThen .now
  · cases e

theorem kd_new : builtinKind "list.__new__" = some .builtinFn := by decide +kernel
theorem sp_new : splitId "list.__new__" = some ("list", "__new__") := by decide +kernel
theorem new_sig (rest : List Value) : (match Manifest.signature? "list.__new__" with | some sig => Bind.checkArgs "list.__new__" sig ⟨.ref 327 :: rest, []⟩ | none => pure ()) = pure () := by kernel_rfl

section
variable {prog : Program} {w : World} {A : Around} {E : Value → Shared → Prop} {R : Result → Shared → Prop} {h : Heap} {g : Array GenState} {dr : Drawn} {tk : Nat} {os : OsState}

theorem tg_new {rest : List Value} (X : (KK w).In h) 
    (hq : R (.ok (.ret (.ref (h.objs.size + 1)))) ⟨(h.push emptyDict).push (Tg h.objs.size #[] 0), g, dr, tk, os⟩) :
    codeAny (model prog w) A (.call (.builtin "list.__new__") ⟨.ref 327 :: rest, []⟩) R ⟨h, g, dr, tk, os⟩ := by
  obtain ⟨⟨oc, od, cd, sl, hC, e2, e4⟩, made, base, isT, sub, self, call, typ, init⟩ := tgMakes (M := model prog w) X
  refine codeAny_call_builtin_code (plainId_quiet F.plain_list_new _) ?_
  have L4 : Looks (model prog w) h (Bind.madeBy (.ref 327)) (some "list.__new__") := made
  have L5 : Looks (model prog w) h (Bind.staticBase (.ref 327)) (.ref 327) := base
  simp only [checkBuiltinCall, kd_new, sp_new]
  cases hsig : Manifest.signature? "list.__new__" with
  | none => exact absurd hsig (by decide +kernel)
  | some sig =>
  have hargs : Bind.checkArgs "list.__new__" sig ⟨.ref 327 :: rest, []⟩ = pure () := by have := new_sig rest; rw [hsig] at this; exact this
  repeat (first | rw [hargs] | simp only [bne_self_eq_false, Bool.false_eq_true, if_false, Bool.not_true] | lk)
  refine codeAny_builtin_stack F.entry_list_new rfl fun p st => ?_
  rw [Around.under_plainId F.plain_list_new _]
  have hown := owner_list_new
  simp only [hown]
  have hC' := Heap.get?_push_of_some (Tg h.objs.size #[] 0) (Heap.get?_push_of_some emptyDict hC)
  refine wpAny_bind (isT.at ?_)
  simp only [Bool.not_true, Bool.false_eq_true, if_false]
  refine wpAny_bind (sub.at ?_)
  simp only [Bool.not_true, Bool.false_eq_true, if_false]
  refine wpAny_bind (wpAny_pure ?_)
  rw [if_neg (show ¬ ((!typeHasDict (.ref 327)) = true) from by decide)]
  refine wpAny_bind (m := newDict) (wpAny_newObj_type ?_)
  show wpAny _ _ (newObj (.ref 327) (.seq #[]) (some h.objs.size) >>= ret) _ _ _
  refine wpAny_bind (m := newObj (.ref 327) (.seq #[]) (some h.objs.size)) ?_
  show wpAny _ _ (newObjAsIs (.ref 327) (.seq #[]) (some h.objs.size)) _ _ _
  unfold newObjAsIs classHasDel
  refine wpAny_bind (wpAny_alloc (wpAny_bind (wpAny_bind (wpAny_load (Heap.get?_push_of_some _ (Heap.get?_push_of_some _ hC)) (wpAny_pure ?_)))))
  rw [e2]
  refine wpAny_pure (wpAny_pure ?_)
  show R _ _
  rw [Heap.size_push]
  exact hq

theorem tg_core {rest : List Value} (X : (KK w).In h)
    (hq : ∀ A', wpAny (model prog w) A' (PySem.call (.builtin "list.__init__") (.ref (h.objs.size + 1) :: rest)) (fun v s' => v = .none ∧ R (.ok (.ret (.ref (h.objs.size + 1)))) s') (fun e s' => R (.error e) s') ⟨(h.push emptyDict).push (Tg h.objs.size #[] 0), g, dr, tk, os⟩) :
    codeAny (model prog w) A (.call (.ref 327) ⟨rest, []⟩) R ⟨h, g, dr, tk, os⟩ := by
  obtain ⟨⟨oc, od, cd, sl, hC, e2, e4⟩, made, base, isT, sub, self, call, typ, init⟩ := tgMakes (M := model prog w) X
  refine codeAny_of_tree ?_
  show wpAny _ _ (callAny (.ref 327) _) _ _ _
  refine nd_load hC ?_
  show wpAny _ _ (callAny.viaDunder (.ref 327) _) _ _ _
  unfold callAny.viaDunder
  refine wpAny_bind (call.at ?_)
  dsimp only
  rw [tc_bind]
  refine wpAny_bind (wpAny_pure (wpAny_bind (wpAny_pure ?_)))
  refine wpAny_pure (a := Fin.again (.call (.builtin "type.__call__") ⟨.ref 327 :: rest, []⟩)) (And.intro rfl ?_)
  refine codeAny_call_builtin_at (Code.quiet_builtin _ (by decide +kernel)) entry_typeCall (check_slot tc_kind tc_split typ (tc_args _ _ _) ?_)
  unfold Builtin.«type.__call__»
  have hm : Looks (model prog w) h (mroOf (.ref 327)) cd.mro := ((Looks.ld (part := none) hC).andThen .now).andThen .now
  repeat (first | simp only [e4, Bool.false_eq_true, if_false] | with_reducible refine wpAny_call ?_ | lk)
  refine tg_new X ?_
  have k : ∀ b o, h.get? b = some o → ((h.push emptyDict).push (Tg h.objs.size #[] 0)).get? b = some o := fun b o e => Heap.get?_push_of_some _ (Heap.get?_push_of_some _ e)
  have hx : ((h.push emptyDict).push (Tg h.objs.size #[] 0)).get? (h.objs.size + 1) = some (Tg h.objs.size #[] 0) := by heap_get
  have t1 : Looks (model prog w) ((h.push emptyDict).push (Tg h.objs.size #[] 0)) (typeOf (.ref (h.objs.size + 1))) (.ref 327) := (Looks.ld hx).andThen .now
  have s1 := self.keeps k
  have i1 := init.keeps k
  unfold isInstance callSpecial? specialOf
  repeat (first | with_reducible refine wpAny_mono (hq _) (fun v s' z => ?_) fun _ _ z => z | rw [F.called_list.init.bind] | lk)
  obtain ⟨rfl, z⟩ := z
  rw [if_neg (by decide)]
  exact wpAny_pure z
end

section
variable {prog : Program} {w : World} {A : Around} {E : Value → Shared → Prop} {s : Shared} {a d : Addr} {items : Array Value} {n : Nat}

theorem kd_init : builtinKind "list.__init__" = some .slot ∨ builtinKind "list.__init__" = some .method := by decide +kernel
theorem sp_init : splitId "list.__init__" = some ("list", "__init__") := by decide +kernel
theorem init_args0 (v : Value) : argsOk "list.__init__" ⟨[v], []⟩ := by unfold argsOk; kernel_rfl

theorem b_init0 {o : Obj} (ho : s.heap.get? a = some o) (hd : o.data = .seq items n) (hsz : items.size ≤ sizeLine) {Q : Fin → Shared → Prop}
    (hq : Q (.done (.ret .none)) { s with heap := s.heap.update a (Obj.mapSeq (fun _ => #[])) }) : wpAny (model prog w) A (Builtin.«list.__init__» ⟨[.ref a], []⟩) Q E s := by
  show wpAny _ _ (do let old ← Builtin.List.listItems (.ref a); Builtin.List.listUpdate (.ref a) (fun _ => #[]); letGo old.toList.reverse; ret .none) _ _ s
  refine wpAny_bind (b_items ho hd ?_)
  refine wpAny_bind (m := Builtin.List.listUpdate (.ref a) (fun _ => #[])) (wpAny_updateSeq ho hd ?_ (hz := hsz) (_hz' := by simp))
  exact wpAny_bind (wpAny_letGo (wpAny_pure hq))

theorem b_init1 {o ob : Obj} {b : Addr} {ys : Array Value} {m : Nat} (ho : s.heap.get? a = some o) (hd : o.data = .seq items n) (hsz : items.size ≤ sizeLine) (hne : b ≠ a)
    (hob : s.heap.get? b = some ob) (hcb : ob.cls = .type "list") (hdb : ob.data = .seq ys m) (hy : ys.size ≤ sizeLine) {Q : Fin → Shared → Prop}
    (hq : Q (.done (.ret .none)) { s with heap := (s.heap.update a (Obj.mapSeq (fun _ => #[]))).update a (Obj.mapSeq (· ++ ys)) }) : wpAny (model prog w) A (Builtin.«list.__init__» ⟨[.ref a, .ref b], []⟩) Q E s := by
  show wpAny _ _ (do let old ← Builtin.List.listItems (.ref a); Builtin.List.listUpdate (.ref a) (fun _ => #[]); letGo old.toList.reverse; Builtin.List.listExtendWith (.ref a) (.ref b) .none) _ _ s
  refine wpAny_bind (b_items ho hd ?_)
  refine wpAny_bind (m := Builtin.List.listUpdate (.ref a) (fun _ => #[])) (wpAny_updateSeq ho hd ?_ (hz := hsz) (_hz' := by simp))
  refine wpAny_bind (wpAny_letGo ?_)
  obtain ⟨n', hd'⟩ := Obj.data_mapSeq hd (fun _ => #[])
  exact b_extend (s := { s with heap := s.heap.update a (Obj.mapSeq (fun _ => #[])) }) (Heap.get?_update_self _ ho (Obj.isFreed_of_seq hd')) hd' ((Heap.get?_update_other _ _ (Ne.symm hne)).trans hob) hcb hdb (by simpa using hy) hq

theorem fresh_size {h : Heap} : h.get? h.objs.size = none := by
  cases q : h.get? h.objs.size with
  | none => rfl
  | some o => exact absurd (Heap.lt_size q) (Nat.lt_irrefl _)
theorem fresh_ge {h : Heap} {b : Addr} (hb : h.objs.size ≤ b) : h.get? b = none := by
  cases q : h.get? b with
  | none => rfl
  | some o => exact absurd (Heap.lt_size q) (Nat.not_lt.mpr hb)

/-- Tags() -/
theorem tags_call0 (X : (KK w).In s.heap) {Q : Value → Shared → Prop}
    (hq : ∀ h' a d n, (∀ b o, s.heap.get? b = some o → h'.get? b = some o) → s.heap.get? a = none → s.heap.get? d = none → TagsAt h' a d #[] n → Q (.ref a) { s with heap := h' }) :
    wpAny (model prog w) A (call (.ref 327) []) Q E s := by
  obtain ⟨h, g, dr, tk, os⟩ := s
  refine wpAny_call (tg_core X fun A' => ?_)
  have k : ∀ b o, h.get? b = some o → ((h.push emptyDict).push (Tg h.objs.size #[] 0)).get? b = some o := fun b o e => Heap.get?_push_of_some _ (Heap.get?_push_of_some _ e)
  have hx : ((h.push emptyDict).push (Tg h.objs.size #[] 0)).get? (h.objs.size + 1) = some (Tg h.objs.size #[] 0) := by heap_get
  have hd : ((h.push emptyDict).push (Tg h.objs.size #[] 0)).get? h.objs.size = some emptyDict := by heap_get
  have t : TagsAt ((h.push emptyDict).push (Tg h.objs.size #[] 0)) (h.objs.size + 1) h.objs.size #[] 0 := ⟨hx, hd⟩
  refine call_b kd_init sp_init F.called_list.init.plain F.entry_list_init (init_args0 _) (t.inst (X.keeps k)) (b_init0 hx rfl (by simp) ⟨_, rfl, rfl, ?_⟩)
  obtain ⟨n', t'⟩ := t.upd (fun _ => #[])
  exact hq _ _ _ n' (fun b o e => (Heap.get?_update_other _ _ (Nat.ne_of_gt (Nat.lt_succ_of_lt (Heap.lt_size e)))).trans (k b o e)) (fresh_ge (Nat.le_succ _)) fresh_size t'

/-- Tags(a list) -/
theorem tags_call1 (X : (KK w).In s.heap) {ob : Obj} {b : Addr} {ys : Array Value} {m : Nat} (hob : s.heap.get? b = some ob) (hcb : ob.cls = .type "list") (hdb : ob.data = .seq ys m) (hy : ys.size ≤ sizeLine) {Q : Value → Shared → Prop}
    (hq : ∀ h' a d n, (∀ b o, s.heap.get? b = some o → h'.get? b = some o) → s.heap.get? a = none → s.heap.get? d = none → TagsAt h' a d ys n → Q (.ref a) { s with heap := h' }) :
    wpAny (model prog w) A (call (.ref 327) [.ref b]) Q E s := by
  obtain ⟨h, g, dr, tk, os⟩ := s
  refine wpAny_call (tg_core X fun A' => ?_)
  have k : ∀ b o, h.get? b = some o → ((h.push emptyDict).push (Tg h.objs.size #[] 0)).get? b = some o := fun b o e => Heap.get?_push_of_some _ (Heap.get?_push_of_some _ e)
  have hx : ((h.push emptyDict).push (Tg h.objs.size #[] 0)).get? (h.objs.size + 1) = some (Tg h.objs.size #[] 0) := by heap_get
  have hd : ((h.push emptyDict).push (Tg h.objs.size #[] 0)).get? h.objs.size = some emptyDict := by heap_get
  have t : TagsAt ((h.push emptyDict).push (Tg h.objs.size #[] 0)) (h.objs.size + 1) h.objs.size #[] 0 := ⟨hx, hd⟩
  refine call_b kd_init sp_init F.called_list.init.plain F.entry_list_init (F.args_list_init_2 _ _) (t.inst (X.keeps k))
    (b_init1 hx rfl (by simp) (Nat.ne_of_lt (Nat.lt_succ_of_lt (Heap.lt_size hob))) (k _ _ hob) hcb hdb hy ⟨_, rfl, rfl, ?_⟩)
  obtain ⟨n', t'⟩ := t.upd (fun _ => #[])
  obtain ⟨n'', t''⟩ := t'.upd (· ++ ys)
  refine hq _ _ _ n'' (fun b o e => (Heap.get?_update_other _ _ (Nat.ne_of_gt (Nat.lt_succ_of_lt (Heap.lt_size e)))).trans ((Heap.get?_update_other _ _ (Nat.ne_of_gt (Nat.lt_succ_of_lt (Heap.lt_size e)))).trans (k b o e))) (fresh_ge (Nat.le_succ _)) fresh_size ?_
  simpa using t''
end
end Mine

namespace Mine

def SeqAt (h : Heap) (a : Addr) (items : Array Value) : Prop := ∃ o n, h.get? a = some o ∧ o.data = .seq items n
theorem SeqAt.at {h h' : Heap} {a : Addr} {items : Array Value} (x : SeqAt h a items) (k : ∀ o, h.get? a = some o → h'.get? a = some o) : SeqAt h' a items := let ⟨o, n, e, r⟩ := x; ⟨o, n, k _ e, r⟩

theorem walksSeq {prog : Program} {w : World} {A : Around} (hh : A.handled = none) (I ax : Addr) (hne : ax ≠ I) (items : Array Value) :
    Walks prog w A I [I, ax] [I] items.size (fun i v => items[i]? = some v) (fun i h => h.IsListIter I ax i ∧ SeqAt h ax items) where
  sub := fun b hb => by simp at hb; simp [hb]
  frame := fun _ _ _ st hk => ⟨st.1.at fun o e => hk I (by simp) o e, st.2.at fun o e => hk ax (by simp) o e⟩
  item := fun i s Q E hi st hQ => by
    obtain ⟨o, n, ho, hd⟩ := st.2
    refine li_next st.1 ho hd (x := items[i]) (by simp [hi]) fun h' hit' hs' => ?_
    exact hQ _ h' s.toks (by simp [hi]) ⟨hit', st.2.at fun o e => hs'.extBut _ _ hne e⟩ fun b o hb e => hs'.extBut b o (fun h => hb (by simp [h])) e
  done := fun s Q E st hQ => by
    obtain ⟨o, n, ho, hd⟩ := st.2
    exact li_end hh st.1 ho hd (by simp) fun h' he' => hQ h' s.toks fun b o hb e => he' b o (fun h => hb (by simp [h])) e
  self := fun _ _ _ _ st hQ => wpAny_pyIter_listiter st.1 hQ

section
variable {prog : Program} {w : World} {A : Around} {E : Value → Shared → Prop} {s : Shared} {a d : Addr} {items : Array Value} {n : Nat}

theorem tg_hint (X : (KK w).In s.heap) (t : TagsAt s.heap a d items n) (hsz : items.size ≤ sizeLine) {Q : Bool → Shared → Prop}
    (hq : Q ((items.size : Int) != 0) { s with toks := s.toks + 2 }) : wpAny (model prog w) A (Builtin.List.listLengthHint (.ref a)) Q E s := by
  unfold Builtin.List.listLengthHint
  refine wpAny_bind ((t.special X (k_len w)).here ?_)
  simp only [sp_len]
  refine wpAny_bind ((t.inst X).here ?_)
  simp only [Bool.not_true, Bool.false_eq_true, if_false]
  rw [if_pos (by decide +kernel)]
  refine wpAny_bind (t.type.here ?_)
  refine wpAny_bind (tg_len X t hsz ?_)
  refine wpAny_bind (m := asInt? (.int items.size (s.toks + 1))) (wpAny_pure ?_)
  exact wpAny_pure hq

/-- list(tags) -/
theorem list_of_tags (hh : A.handled = none) (X : (KK w).In s.heap) (t : TagsAt s.heap a d items n) (hsz : items.size ≤ sizeLine) {Q : Value → Shared → Prop}
    (hq : ∀ h' tk c', (∀ b o, s.heap.get? b = some o → h'.get? b = some o) → h'.get? s.heap.objs.size = some { cls := .type "list", dict := none, data := .seq items c', slots := #[] } → Q (.ref s.heap.objs.size) { s with heap := h', toks := tk }) :
    wpAny (model prog w) A (call (.type "list") [.ref a]) Q E s := by
  have hne : a ≠ s.heap.objs.size := fun e => Nat.lt_irrefl _ (e ▸ Heap.lt_size t.obj)
  refine callType_codes (Q₁ := fun obj s₁ => obj = .ref s.heap.objs.size ∧ s₁ = { s with heap := s.heap.push { cls := .type "list", data := .seq #[] } }) F.called_list (F.typeCall_list_1 _) F.entry_list_init
    (code_list_new _ ⟨rfl, rfl⟩) fun obj s₁ h₁ => ?_
  obtain ⟨rfl, rfl⟩ := h₁
  generalize hS0 : s.heap.objs.size = S at hne hq ⊢
  have hS : (s.heap.push { cls := .type "list", data := .seq #[] }).get? S = some { cls := .type "list", data := .seq #[] } := hS0 ▸ Heap.get?_push_size _ rfl
  refine ⟨⟨_, hS, rfl⟩, F.args_list_init_2 _ _, ?_⟩
  show wpAny _ _ (do let old ← Builtin.List.listItems (.ref S); Builtin.List.listUpdate (.ref S) (fun _ => #[]); letGo old.toList.reverse; Builtin.List.listExtendWith (.ref S) (.ref a) .none) _ _ _
  refine wpAny_bind (b_items hS rfl ?_)
  refine wpAny_bind (m := Builtin.List.listUpdate (.ref S) (fun _ => #[])) (wpAny_updateSeq hS rfl ?_ (hz := by simp) (_hz' := by simp))
  refine wpAny_bind (wpAny_letGo ?_)
  have hS₂ := Heap.get?_update_self (Obj.mapSeq (fun _ => (#[] : Array Value))) hS rfl
  have k2 : ∀ b o, s.heap.get? b = some o → ((s.heap.push { cls := .type "list", data := .seq #[] }).update S (Obj.mapSeq (fun _ => (#[] : Array Value)))).get? b = some o := fun b o e =>
    (Heap.get?_update_other _ _ (by rw [← hS0]; exact Nat.ne_of_gt (Heap.lt_size e))).trans (Heap.get?_push_of_some _ e)
  generalize hH : (s.heap.push { cls := .type "list", data := .seq #[] }).update S (Obj.mapSeq (fun _ => (#[] : Array Value))) = H at hS₂ k2 ⊢
  have t2 := t.keeps k2
  have X2 := X.keeps k2
  unfold Builtin.List.listExtendWith
  refine wpAny_bind (t2.type.here ?_)
  have h1 : (Builtin.List.listSameRef (.ref S) (.ref a) || Value.ref 327 == Value.type "list" || Value.ref 327 == Value.type "tuple") = false := by
    have : Builtin.List.listSameRef (.ref S) (.ref a) = false := by simp [Builtin.List.listSameRef, Ne.symm hne]
    rw [this]; decide
  simp only [h1, Bool.false_eq_true, if_false]
  refine wpAny_bind (tg_pyIter X2 t2 ?_)
  have k3 : ∀ b o, H.get? b = some o → (H.push { cls := .type "list_iterator", data := .fields #[.ref a, .int 0 0] }).get? b = some o := fun b o e => Heap.get?_push_of_some _ e
  refine wpAny_bind (wpAny_holding (tg_hint (X2.keeps k3) (t2.keeps k3) hsz ?_))
  dsimp only
  have hI : (H.push { cls := .type "list_iterator", data := .fields #[.ref a, .int 0 0] }).IsListIter H.objs.size a 0 := ⟨_, Heap.get?_push_size _ rfl, rfl, rfl⟩
  have hSa := Heap.lt_size hS₂
  have haH := Heap.lt_size t2.obj
  have hSI : S ≠ H.objs.size := Nat.ne_of_lt hSa
  have haI : a ≠ H.objs.size := Nat.ne_of_lt haH
  have hSw : S ∉ [H.objs.size, a] := by simp; exact ⟨hSI, Ne.symm hne⟩
  have loop : ∀ (H' : Heap) (c : Nat), H'.get? S = some { cls := .type "list", data := .seq #[] c } → H'.IsListIter H.objs.size a 0 → SeqAt H' a items → (∀ b o, s.heap.get? b = some o → H'.get? b = some o) →
      codeAny (model prog w) A.in1 (.builtin "list.extend.loop" ⟨[.ref S, .ref H.objs.size, .none], []⟩) (wants (fun r s₂ => r = Value.none ∧ Q (.ref S) s₂) E) { s with heap := H', toks := s.toks + 2 } := by
    intro H' c e1 e2 e3 e4
    have W := (walksSeq (prog := prog) (w := w) (A := A.in1.in1) hh H.objs.size a haI items).toS
    refine codeAny_extend_loopS W hsz S hSw .none items.size 0 _ #[] c rfl (Nat.zero_le _) ⟨e2, e3⟩ e1 (ItemsOf.nil _) fun s' acc' c' hm hS' hacc => ⟨rfl, ?_⟩
    have ea : acc' = items := by
      apply Array.ext hacc.1
      intro j h1 h2
      have := hacc.2 j acc'[j] (by simp [h1])
      simpa [h2] using this.symm
    subst ea
    have := hq s'.heap s'.toks c' (fun b o e => ?_) hS'
    · obtain ⟨h', g', d', tk', os'⟩ := s'
      obtain ⟨m1, m2, m3, m4, m5⟩ := hm
      dsimp only at m2 m3 m4 this
      subst m2 m3 m4
      exact this
    · refine hm.heap b o ?_ (e4 b o e)
      have hb := Heap.lt_size e
      rw [hS0] at hb
      simp only [List.mem_cons, List.not_mem_nil, or_false, not_or]
      exact ⟨Nat.ne_of_lt hb, Nat.ne_of_lt (Nat.lt_trans hb hSa)⟩
  have hS₃ := k3 _ _ hS₂
  have a₃ : SeqAt (H.push { cls := .type "list_iterator", data := .fields #[.ref a, .int 0 0] }) a items := ⟨_, _, k3 _ _ t2.obj, rfl⟩
  have k4 : ∀ b o, s.heap.get? b = some o → (H.push { cls := .type "list_iterator", data := .fields #[.ref a, .int 0 0] }).get? b = some o := fun b o e => k3 _ _ (k2 _ _ e)
  generalize H.push { cls := .type "list_iterator", data := .fields #[.ref a, .int 0 0] } = H3 at hI hS₃ a₃ k4 ⊢
  split
  · refine wpAny_bind (wpAny_rule (wpAny_bind ?_))
    show wpAny _ _ (updateSeq S (·.push .none) >>= fun _ => updateSeq S (·.pop)) _ _ _
    refine wpAny_bind (wpAny_updateSeq hS₃ rfl ?_)
    have hS₄ := Heap.get?_update_self (Obj.mapSeq (·.push Value.none)) hS₃ rfl
    refine wpAny_updateSeq (hz := by seq_fits) hS₄ rfl ?_
    have hS₅ := Heap.get?_update_self (Obj.mapSeq (·.pop)) hS₄ rfl
    have oth : ∀ b o, b ≠ S → H3.get? b = some o → ((H3.update S (Obj.mapSeq (·.push Value.none))).update S (Obj.mapSeq (·.pop))).get? b = some o :=
      fun b o hb e => (Heap.get?_update_other _ _ (Ne.symm hb)).trans ((Heap.get?_update_other _ _ (Ne.symm hb)).trans e)
    exact wpAny_pure ⟨plainId_quiet F.plain_extend_loop _, loop _ _ hS₅ (hI.at fun o e => oth _ _ (Ne.symm hSI) e) (a₃.at fun o e => oth _ _ hne e) fun b o e => oth _ _ (by rw [← hS0]; exact Nat.ne_of_lt (Heap.lt_size e)) (k4 _ _ e)⟩
  · exact wpAny_pure ⟨plainId_quiet F.plain_extend_loop _, loop _ _ hS₃ hI a₃ k4⟩
end
end Mine

namespace Mine

def topSt (i : Nat) : Stmt := PySem.Challenge.pw_ep5008_01.main.body.getD i (.Pass default)
def bodyOfS : Stmt → List Stmt
  | .FunctionDef _ _ b _ _ _ _ _ _ _ => b
  | .ClassDef _ _ _ b _ _ _ _ _ _ _ => b
  | _ => []
def parsOfS : Stmt → Arguments
  | .FunctionDef _ a _ _ _ _ _ _ _ _ => a
  | _ => default
def scopeOfS : Stmt → Scope
  | .FunctionDef _ _ _ _ _ _ sc _ _ _ => sc
  | _ => default
def clsSt (i j : Nat) : Stmt := (bodyOfS (topSt i)).getD j (.Pass default)

structure FnAt (h : Heap) (f : Addr) (qual : Str) (st : Stmt) (cd : Value) : Prop where
  obj : ∃ oc od sl name doc pm ct, h.get? f = some ⟨oc, od, .func (fnOf name qual (parsOfS st) (bodyOfS st) (scopeOfS st) .none .none doc pm none cd ct), sl⟩
  code : h.CodeRec cd qual

theorem FnAt.keeps {h h' : Heap} {f : Addr} {qual : Str} {st : Stmt} {cd : Value} (x : FnAt h f qual st cd) (k : ∀ b o, h.get? b = some o → h'.get? b = some o) : FnAt h' f qual st cd :=
  let ⟨⟨a, b, c, d, e, g, i, j⟩, y⟩ := x; ⟨⟨a, b, c, d, e, g, i, k _ _ j⟩, y.keeps k⟩

section
variable {w : World} {h : Heap} (X : (KK w).In h)
include X
theorem fn_plain : FnAt h 402 "_law_plain" (topSt 20) (.ref 401) := ⟨⟨.type "function", none, #[], "_law_plain", .none, .str "law_ep5008_01" 651, .none, X _ _ (by kernel_rfl)⟩, codeRec_of X (by kernel_rfl)⟩
theorem fn_due : FnAt h 407 "_law_due" (topSt 21) (.ref 406) := ⟨⟨.type "function", none, #[], "_law_due", .none, .str "law_ep5008_01" 651, .none, X _ _ (by kernel_rfl)⟩, codeRec_of X (by kernel_rfl)⟩
theorem fn_where : FnAt h 414 "_law_where" (topSt 22) (.ref 413) := ⟨⟨.type "function", none, #[], "_law_where", .none, .str "law_ep5008_01" 651, .none, X _ _ (by kernel_rfl)⟩, codeRec_of X (by kernel_rfl)⟩
theorem fn_get : FnAt h 421 "_law_get" (topSt 23) (.ref 420) := ⟨⟨.type "function", none, #[], "_law_get", .none, .str "law_ep5008_01" 651, .none, X _ _ (by kernel_rfl)⟩, codeRec_of X (by kernel_rfl)⟩
theorem fn_cut : FnAt h 428 "_law_cut" (topSt 24) (.ref 427) := ⟨⟨.type "function", none, #[], "_law_cut", .none, .str "law_ep5008_01" 651, .none, X _ _ (by kernel_rfl)⟩, codeRec_of X (by kernel_rfl)⟩
theorem fn_words : FnAt h 396 "_law_words" (topSt 18) (.ref 395) := ⟨⟨.type "function", none, #[], "_law_words", .none, .str "law_ep5008_01" 651, .none, X _ _ (by kernel_rfl)⟩, codeRec_of X (by kernel_rfl)⟩
theorem fn_xdata : FnAt h 340 "xdata_list" (topSt 11) (.ref 339) := ⟨⟨.type "function", none, #[], "xdata_list", .none, .str "ezdxf.lldxf.tags" 358, .none, X _ _ (by kernel_rfl)⟩, codeRec_of X (by kernel_rfl)⟩
theorem fn_remove : FnAt h 347 "remove_named_list_from_xdata" (topSt 12) (.ref 346) := ⟨⟨.type "function", none, #[], "remove_named_list_from_xdata", .none, .str "ezdxf.lldxf.tags" 358, .none, X _ _ (by kernel_rfl)⟩, codeRec_of X (by kernel_rfl)⟩
theorem fn_named : FnAt h 354 "get_named_list_from_xdata" (topSt 13) (.ref 353) := ⟨⟨.type "function", none, #[], "get_named_list_from_xdata", .none, .str "ezdxf.lldxf.tags" 358, .none, X _ _ (by kernel_rfl)⟩, codeRec_of X (by kernel_rfl)⟩
theorem fn_se : FnAt h 374 "get_start_and_end_of_named_list_in_xdata" (topSt 15) (.ref 373) := ⟨⟨.type "function", none, #[], "get_start_and_end_of_named_list_in_xdata", .none, .str "ezdxf.lldxf.tags" 358, .none, X _ _ (by kernel_rfl)⟩, codeRec_of X (by kernel_rfl)⟩
theorem fn_init : FnAt h 73 "DXFTag.__init__" (clsSt 6 1) (.ref 72) := ⟨⟨.type "function", none, #[], "__init__", .none, .str "ezdxf.lldxf.types" 248, .none, X _ _ (by kernel_rfl)⟩, codeRec_of X (by kernel_rfl)⟩
theorem fn_value : FnAt h 102 "DXFTag.value" (clsSt 6 5) (.ref 101) := ⟨⟨.type "function", none, #[], "value", .none, .str "ezdxf.lldxf.types" 248, .none, X _ _ (by kernel_rfl)⟩, codeRec_of X (by kernel_rfl)⟩
theorem fn_getitem : FnAt h 110 "DXFTag.__getitem__" (clsSt 6 6) (.ref 109) := ⟨⟨.type "function", none, #[], "__getitem__", .none, .str "ezdxf.lldxf.types" 248, .none, X _ _ (by kernel_rfl)⟩, codeRec_of X (by kernel_rfl)⟩
theorem fn_eq : FnAt h 124 "DXFTag.__eq__" (clsSt 6 8) (.ref 123) := ⟨⟨.type "function", none, #[], "__eq__", .none, .str "ezdxf.lldxf.types" 248, .none, X _ _ (by kernel_rfl)⟩, codeRec_of X (by kernel_rfl)⟩
end
end Mine

namespace Mine

/-- room for n calls, one in the other -/
structure Room (A : Around) (n : Nat) : Prop where
  hd : A.handled = none
  dp : A.depth + 3 * n < recursionLimit
  un : A.units + 20 * n + 64 < cLine
theorem Room.deeper {A : Around} {n : Nat} (r : Room A (n + 1)) (env : Env) : Room (A.deeper env) n := ⟨r.hd, by have := r.dp; show A.depth + 1 + 3 * n < _; omega, by have := r.un; show A.units + 3 + 20 * n + 64 < _; omega⟩
theorem Room.in1 {A : Around} {n : Nat} (r : Room A (n + 1)) : Room A.in1 n := ⟨r.hd, by have := r.dp; show A.depth + 3 * n < _; omega, by have := r.un; show A.units + 1 + 20 * n + 64 < _; omega⟩
theorem Room.less {A : Around} {n m : Nat} (r : Room A n) (h : m ≤ n) : Room A m := ⟨r.hd, by have := r.dp; omega, by have := r.un; omega⟩
theorem Room.d {A : Around} {n : Nat} (r : Room A n) : A.depth < recursionLimit := by have := r.dp; omega
theorem Room.u {A : Around} {n : Nat} (r : Room A n) : A.units + 64 < cLine := by have := r.un; omega

abbrev bmE : List Value := [.type "Exception", .type "BaseException", .type "object"]
/-- a class of the text's own, under Exception -/
def ExcAt (h : Heap) (C : Addr) : Prop := ∃ x mg, OwnCls x C bmE "Exception.__new__" mg h
theorem ExcAt.keeps {h h' : Heap} {C : Addr} (e : ExcAt h C) (k : ∀ b o, h.get? b = some o → h'.get? b = some o) : ExcAt h' C := e.imp fun _ e => e.imp fun _ O => O.keeps k
structure Top0 (w : World) (h : Heap) : Prop where
  K : (KK w).In h
  g : ∃ mg, h.Ns mainGlobals mg ∧ (∀ x v, nsIn (KK w) mainGlobals x = some (some v) → mg x = some v) ∧ ∀ x, nsIn (KK w) mainGlobals x = some none → mg x = none
  b : ∃ mb, h.Ns builtinsNs mb ∧ ∀ (x : Str) v, x ≠ "__name__" → bootBuiltins x = some v → mb x = some v
  lim : h.NoLimit
  e1 : ExcAt h 364
  e2 : ExcAt h 44
theorem Top0.keeps {w : World} {h h' : Heap} (T : Top0 w h) (k : ∀ b o, h.get? b = some o → h'.get? b = some o) : Top0 w h' :=
  ⟨T.K.keeps k, let ⟨mg, a, r⟩ := T.g; ⟨mg, a.keeps k, r⟩, let ⟨mb, a, r⟩ := T.b; ⟨mb, a.keeps k, r⟩, T.lim.keeps k, T.e1.keeps k, T.e2.keeps k⟩

section
variable {prog : Program} {w : World} {A : Around} {E : Value → Shared → Prop} {s : Shared} {env : Env}

theorem nm_g {x : Str} {pos : Pos} {v : Value} {Q : Value → Shared → Prop} (T : Top0 w s.heap) (e : nsIn (KK w) mainGlobals x = some (some v)) (h : Q v s) (hk : env.scope.kind = .function := by rfl)
    (hx : env.kindOf x = some .globalImplicit := by rfl) (hg : env.globals = mainGlobals := by rfl) (hd : (x == ("__debug__" : Str)) = false := by decide) : wpAny (model prog w) A (eval (.Name x pos) env) Q E s := by
  obtain ⟨mg, g, g1, g2⟩ := T.g
  exact Name_function_global hk hx (loadGlobal_global (by rw [hg]; exact g) (g1 _ _ e) h) hd
theorem nm_b {x : Str} {pos : Pos} {v : Value} {Q : Value → Shared → Prop} (T : Top0 w s.heap) (e : nsIn (KK w) mainGlobals x = some none) (hv : bootBuiltins x = some v) (h : Q v s) (hn : x ≠ "__name__" := by decide) (hk : env.scope.kind = .function := by rfl)
    (hx : env.kindOf x = some .globalImplicit := by rfl) (hg : env.globals = mainGlobals := by rfl) (hb : env.builtins = builtinsNs := by rfl) (hd : (x == ("__debug__" : Str)) = false := by decide) : wpAny (model prog w) A (eval (.Name x pos) env) Q E s := by
  obtain ⟨mg, g, g1, g2⟩ := T.g
  obtain ⟨mb, b, b1⟩ := T.b
  exact Name_function_global hk hx (loadGlobal_builtin (by rw [hg]; exact g) (g2 _ e) (by rw [hb]; exact b) (b1 _ _ hn hv) h) hd
theorem nm_l {M : Model} {x : Str} {pos : Pos} {v : Value} {m : Str → Option Value} {Q : Value → Shared → Prop} (hn : s.heap.Ns env.locals m) (hv : m x = some v) (h : Q v s) (hk : env.scope.kind = .function := by rfl)
    (hl : env.kindOf x = some .local := by rfl) (hd : (x == ("__debug__" : Str)) = false := by decide) : wpAny M A (eval (.Name x pos) env) Q E s := wpAny_Name (wpAny_loadName_local hk hl hn hv h) hd

/-- a def of the text, called: it raises nothing -/
theorem call_fn {f : Addr} {qual : Str} {st : Stmt} {cd : Value} {args : List Value} {binds : List (Str × Value)} {Q : Value → Shared → Prop} {n : Nat} (fn : FnAt s.heap f qual st cd) (lim : s.heap.NoLimit) (r : Room A n)
    (hbind : ∀ name doc pm ct, bindArgs (fnOf name qual (parsOfS st) (bodyOfS st) (scopeOfS st) .none .none doc pm none cd ct) ⟨args, []⟩ = pure binds)
    (hloc : ∀ x ∈ binds, (scopeOfS st).names.lookup x.1 = some .local)
    (h : ∀ h₁ L tk, s.heap.get? L = none → h₁.Ns L (fun x => binds.reverse.lookup x) → (∀ b o, s.heap.get? b = some o → h₁.get? b = some o) →
      wpAny (model prog w) (A.deeper (envOf qual (scopeOfS st) L f cd)) (execs (bodyOfS st) (envOf qual (scopeOfS st) L f cd))
        (fun fl s' => Q (match fl with | .ret v => v | _ => .none) s') (fun _ _ => False) { s with heap := h₁, toks := tk })
    (hcell : ∀ x ∈ (scopeOfS st).names, x.2 ≠ .cell := by decide)
    (hco : (scopeOfS st).isCoroutine = false := by rfl) (hgen : (scopeOfS st).isGenerator = false := by rfl) (hk : (scopeOfS st).kind = .function := by rfl) :
    wpAny (model prog w) A (call (.ref f) args) Q E s := by
  obtain ⟨⟨oc, od, sl, name, doc, pm, ct, ho⟩, hcd⟩ := fn
  refine wpAny_call (codeAny_call_def r.d ho rfl lim hcd rfl (BindsTo.of_eq (hbind name doc pm ct)) hcell hloc (fun h₁ hns k => ?_) hco hgen hk)
  exact wpAny_mono (h h₁ _ _ fresh_size hns k) (fun _ _ x => x) fun _ _ x => x.elim

theorem g_plain (w : World) : nsIn (KK w) mainGlobals "_law_plain" = some (some (.ref 402)) := by kernel_rfl
theorem g_due (w : World) : nsIn (KK w) mainGlobals "_law_due" = some (some (.ref 407)) := by kernel_rfl
theorem g_where (w : World) : nsIn (KK w) mainGlobals "_law_where" = some (some (.ref 414)) := by kernel_rfl
theorem g_get (w : World) : nsIn (KK w) mainGlobals "_law_get" = some (some (.ref 421)) := by kernel_rfl
theorem g_cut (w : World) : nsIn (KK w) mainGlobals "_law_cut" = some (some (.ref 428)) := by kernel_rfl
theorem g_words (w : World) : nsIn (KK w) mainGlobals "_law_words" = some (some (.ref 396)) := by kernel_rfl
theorem g_pool (w : World) : nsIn (KK w) mainGlobals "_law_pool" = some (some (.ref 389)) := by kernel_rfl
theorem g_more (w : World) : nsIn (KK w) mainGlobals "_law_more" = some (some (.ref 397)) := by kernel_rfl
theorem g_xdata (w : World) : nsIn (KK w) mainGlobals "xdata_list" = some (some (.ref 340)) := by kernel_rfl
theorem g_remove (w : World) : nsIn (KK w) mainGlobals "remove_named_list_from_xdata" = some (some (.ref 347)) := by kernel_rfl
theorem g_named (w : World) : nsIn (KK w) mainGlobals "get_named_list_from_xdata" = some (some (.ref 354)) := by kernel_rfl
theorem g_se (w : World) : nsIn (KK w) mainGlobals "get_start_and_end_of_named_list_in_xdata" = some (some (.ref 374)) := by kernel_rfl
theorem g_tags (w : World) : nsIn (KK w) mainGlobals "Tags" = some (some (.ref 327)) := by kernel_rfl
theorem g_dxf (w : World) : nsIn (KK w) mainGlobals "DXFTag" = some (some (.ref 149)) := by kernel_rfl
theorem g_open (w : World) : nsIn (KK w) mainGlobals "OPEN_LIST" = some (some (.ref 332)) := by kernel_rfl
theorem g_close (w : World) : nsIn (KK w) mainGlobals "CLOSE_LIST" = some (some (.ref 333)) := by kernel_rfl
theorem g_nf (w : World) : nsIn (KK w) mainGlobals "NotFoundException" = some (some (.ref 364)) := by kernel_rfl
theorem g_ds (w : World) : nsIn (KK w) mainGlobals "DXFStructureError" = some (some (.ref 44)) := by kernel_rfl
theorem g_len (w : World) : nsIn (KK w) mainGlobals "len" = some none := by kernel_rfl
theorem g_range (w : World) : nsIn (KK w) mainGlobals "range" = some none := by kernel_rfl
theorem g_list (w : World) : nsIn (KK w) mainGlobals "list" = some none := by kernel_rfl
theorem g_isinstance (w : World) : nsIn (KK w) mainGlobals "isinstance" = some none := by kernel_rfl
theorem g_str (w : World) : nsIn (KK w) mainGlobals "str" = some none := by kernel_rfl
end
end Mine

namespace Mine

abbrev Dx (dx : Addr) (c v : Value) : Obj := { cls := .ref 149, dict := some dx, data := .plain, slots := #[some c, some v] }
structure DxAt (h : Heap) (x dx : Addr) (c v : Value) : Prop where
  obj : h.get? x = some (Dx dx c v)
  dic : h.get? dx = some emptyDict
theorem DxAt.keeps {h h' : Heap} {x dx : Addr} {c v : Value} (t : DxAt h x dx c v) (k : ∀ b o, h.get? b = some o → h'.get? b = some o) : DxAt h' x dx c v := ⟨k _ _ t.obj, k _ _ t.dic⟩
theorem DxAt.inst {h : Heap} {x dx : Addr} {c v : Value} (t : DxAt h x dx c v) : InstAt h x (Dx dx c v) 149 (some emptyDict) := ⟨t.obj, rfl, rfl, t.dic⟩

theorem d_cls (w : World) : (clsIn (KK w) 149).isSome = true := by kernel_rfl
theorem d_makes (w : World) : makesIn (KK w) 149 = true := by kernel_rfl
theorem d_init (w : World) : findIn (KK w) (.ref 149) "__init__" = some (some (.ref 73)) := by kernel_rfl
theorem d_f73 (w : World) : typeIn (KK w) (.ref 73) = some (.type "function") := by kernel_rfl
theorem d_f110 (w : World) : typeIn (KK w) (.ref 110) = some (.type "function") := by kernel_rfl
theorem d_f124 (w : World) : typeIn (KK w) (.ref 124) = some (.type "function") := by kernel_rfl
theorem d_fn110 (w : World) : fnIn (KK w) 110 = true := by kernel_rfl
theorem d_getitem (w : World) : findIn (KK w) (.ref 149) "__getitem__" = some (some (.ref 110)) := by kernel_rfl
theorem d_eq (w : World) : findIn (KK w) (.ref 149) "__eq__" = some (some (.ref 124)) := by kernel_rfl
theorem d_ga (w : World) : findIn (KK w) (.ref 149) "__getattribute__" = some (some (.builtin "object.__getattribute__")) := by kernel_rfl
theorem d_gattr (w : World) : findIn (KK w) (.ref 149) "__getattr__" = some none := by kernel_rfl
theorem d_sattr (w : World) : findIn (KK w) (.ref 149) "__setattr__" = some (some (.builtin "object.__setattr__")) := by kernel_rfl
theorem d_over (w : World) : plainOver (KK w) 149 = true := by kernel_rfl
theorem d_code (w : World) : findIn (KK w) (.ref 149) "_code" = some (some (.ref 150)) := by kernel_rfl
theorem d_val (w : World) : findIn (KK w) (.ref 149) "_value" = some (some (.ref 151)) := by kernel_rfl
theorem d_prop (w : World) : findIn (KK w) (.ref 149) "value" = some (some (.ref 103)) := by kernel_rfl
theorem d_g150 (w : World) : specialIn (KK w) (.ref 150) "__get__" = some (some (.builtin "member_descriptor.__get__")) := by kernel_rfl
theorem d_g151 (w : World) : specialIn (KK w) (.ref 151) "__get__" = some (some (.builtin "member_descriptor.__get__")) := by kernel_rfl
theorem d_g103 (w : World) : specialIn (KK w) (.ref 103) "__get__" = some (some (.builtin "property.__get__")) := by kernel_rfl
theorem d_t150 (w : World) : takesIn (KK w) (.ref 150) = some true := by kernel_rfl
theorem d_t151 (w : World) : takesIn (KK w) (.ref 151) = some true := by kernel_rfl
theorem d_t103 (w : World) : takesIn (KK w) (.ref 103) = some true := by kernel_rfl
theorem d_k150 (w : World) : takerIn (KK w) 149 "_code" = some (some (.ref 150)) := by kernel_rfl
theorem d_k151 (w : World) : takerIn (KK w) 149 "_value" = some (some (.ref 151)) := by kernel_rfl
theorem d_y150 (w : World) : typeIn (KK w) (.ref 150) = some (.type "member_descriptor") := by kernel_rfl
theorem d_y151 (w : World) : typeIn (KK w) (.ref 151) = some (.type "member_descriptor") := by kernel_rfl
theorem d_s150 (w : World) : slotIn (KK w) 150 149 = some 0 := by kernel_rfl
theorem d_s151 (w : World) : slotIn (KK w) 151 149 = some 1 := by kernel_rfl
theorem d_rec (w : World) : recIn (KK w) 103 "property" = some (.ref 102 :: [.none, .none, .none, .str "value" 303, .bool false]) := by kernel_rfl
theorem d_notFirst (w : World) : subIn (KK w) (.type "tuple") (.ref 149) = some false := by kernel_rfl

section
variable {prog : Program} {w : World} {A : Around} {E : Value → Shared → Prop} {s : Shared} {x dx : Addr} {c v : Value}

theorem dx_getCode {e : Bool} {Q : Value → Shared → Prop} (X : (KK w).In s.heap) (t : DxAt s.heap x dx c v) (hh : handedIn c = true) (h : Q c { s with toks := s.toks + 1 }) : wpAny (model prog w) A (getAttr (.ref x) "_code" e) Q E s :=
  get_bind X t.inst (d_ga w) (findObj_data (d_cls w) (d_code w) (d_g150 w) (d_t150 w)) (d_gattr w) (wpAny_call (slot_get (s := { s with toks := s.toks + 1 }) X t.inst (d_s150 w) rfl (handed_on hh h)))
theorem dx_getVal {e : Bool} {Q : Value → Shared → Prop} (X : (KK w).In s.heap) (t : DxAt s.heap x dx c v) (hh : handedIn v = true) (h : Q v { s with toks := s.toks + 1 }) : wpAny (model prog w) A (getAttr (.ref x) "_value" e) Q E s :=
  get_bind X t.inst (d_ga w) (findObj_data (d_cls w) (d_val w) (d_g151 w) (d_t151 w)) (d_gattr w) (wpAny_call (slot_get (s := { s with toks := s.toks + 1 }) X t.inst (d_s151 w) rfl (handed_on hh h)))

theorem slot_setR {C p : Addr} {i : Nat} {K : Frag} {ox : Obj} {od : Option Obj} {u : Value} {R : Result → Shared → Prop} (X : K.In s.heap) (I : InstAt s.heap x ox C od)
    (hp : slotIn K p C = some i) (hi : i < 1000)
    (h : R (.ok (.ret .none)) { s with heap := s.heap.update x fun o => { o with slots := (o.slots ++ Array.replicate (i + 1 - o.slots.size) none).setIfInBounds i (some u) } }) :
    codeAny (model prog w) A (.call (.builtin "member_descriptor.__set__") ⟨[.ref p, .ref x, u], []⟩) R s := by
  obtain ⟨n, tn, owner, behind, tb, d, sl, cd, ho, hc, hm, hb, rfl⟩ := slot_of X hp
  obtain ⟨hh, g, dr, t, os⟩ := s
  have L0 := I.type (M := model prog w)
  have L1 := looks_mroIn (M := model prog w) X hm
  have L2 : Looks (model prog w) hh (Builtin.Slots.slotNamesOf (.ref C)) cd.slotNames := (looks_clsIn X hc).andThen .now
  have hx := I.at_
  dsimp only at ho hx L0 L1
  have f0 := looks_field (M := model prog w) ho 0 (v := .str n tn) rfl
  have f1 := looks_field (M := model prog w) ho 1 (v := owner) rfl
  have f3 := looks_field (M := model prog w) ho 3 (v := .builtin "proto.slot#set") rfl
  have f4 := looks_field (M := model prog w) ho 4 (v := .int behind tb) rfl
  refine codeAny_call_builtin KF.slot_mset.plain KF.entry_mset (KF.slot_mset.check _ _ _ _ _ _ _ _ ⟨_, ho, rfl⟩ (KF.args_mset _ _ _) ?_)
  unfold Builtin.«member_descriptor.__set__» Builtin.Getset_descriptor.descrSet Builtin.Getset_descriptor.descrStoreThrough Builtin.Getset_descriptor.descrCheckInstance Builtin.Getset_descriptor.descrNameAndClass isInstance
  have f5 : Looks (model prog w) hh (Builtin.Getset_descriptor.descrItself (.ref p)) [.ref p] := ((Looks.ld (part := none) ho).andThen .now).andThen (Looks.of_pure (by kernel_rfl))
  repeat lk
  refine ⟨Code.quiet_builtin _ (by decide +kernel), codeAny_builtin KF.entry_slotset ?_⟩
  unfold Builtin.«proto.slot#set» Builtin.Slots.target
  repeat lk
  rw [if_neg hb]
  refine wpAny_pure (wpAny_bind ?_)
  unfold setSlotAt
  dsimp only
  rw [if_neg (by rw [sizeLine_eq]; omega)]
  exact wpAny_updatePart hx (wpAny_pure h)

theorem dx_set {p : Addr} {i : Nat} {name : Str} {ox : Obj} {u : Value} {Q : Unit → Shared → Prop} (X : (KK w).In s.heap) (I : InstAt s.heap x ox 149 (some emptyDict))
    (hk : takerIn (KK w) 149 name = some (some (.ref p))) (hT : typeIn (KK w) (.ref p) = some (.type "member_descriptor")) (hs : slotIn (KK w) p 149 = some i) (hi : i < 1000)
    (h : Q () { s with heap := s.heap.update x fun o => { o with slots := (o.slots ++ Array.replicate (i + 1 - o.slots.size) none).setIfInBounds i (some u) }, toks := s.toks + 1 }) :
    wpAny (model prog w) A (setAttr (.ref x) name u) Q E s :=
  set_plain X I (d_sattr w) (osa_descr (s := { s with toks := s.toks + 1 }) KF.slot_mset X I (d_over w) hk hT (slot_setR (s := { s with toks := s.toks + 1 }) X I hs hi h))

theorem st_l {M : Model} {env : Env} {y : Str} {u : Value} {m : Str → Option Value} {Q : Unit → Shared → Prop} (hn : s.heap.Ns env.locals m)
    (h : ∀ h' tk, h'.Ns env.locals (fun z => if z = y then some u else m z) → Heap.SameBut env.locals s.heap h' → Q () { s with heap := h', toks := tk }) (hk : env.scope.kind = .function := by rfl)
    (hl : env.kindOf y = some .local := by rfl) : wpAny M A (storeName env y u) Q E s :=
  wpAny_storeName_local hl hn (fun h' a b => h h' _ a b) (by rw [hk]; rfl)

/-- self.value -/
theorem dx_getValue {e : Bool} {n : Nat} {Q : Value → Shared → Prop} (T : Top0 w s.heap) (r : Room A (n + 2)) (t : DxAt s.heap x dx c v) (hh : handedIn v = true) (h : ∀ h' tk, (∀ b o, s.heap.get? b = some o → h'.get? b = some o) → Q v { s with heap := h', toks := tk }) :
    wpAny (model prog w) A (getAttr (.ref x) "value" e) Q E s := by
  refine get_bind T.K t.inst (d_ga w) (findObj_data (d_cls w) (d_prop w) (d_g103 w) (d_t103 w)) (d_gattr w) (wpAny_call (prop_get (s := { s with toks := s.toks + 1 }) T.K (d_rec w) ?_))
  obtain ⟨⟨oc, od, sl, name, doc, pm, ct, ho⟩, hcd⟩ := fn_value T.K
  refine codeAny_call_def (s := { s with toks := s.toks + 1 }) r.in1.d ho rfl T.lim hcd rfl (BindsTo.of_eq (binds := [("self", .ref x)]) rfl) (show ∀ y ∈ (scopeOfS (clsSt 6 5)).names, y.2 ≠ .cell by decide +kernel) (locs rfl) (fun h₁ hns k => ?_) rfl rfl rfl
  have T1 := T.keeps k
  have t1 := t.keeps k
  refine wpAny_execs_cons (wpAny_Return_some (Attribute_Name_ (nm_l hns rfl (dx_getVal T1.K t1 hh ?_))))
  exact handed_on hh (h _ _ k)
end
end Mine

namespace Mine

/-- s' is s but for heap and toks; what stood in the heap stands, but at l -/
structure Kp (l : List Addr) (s s' : Shared) : Prop where
  gens : s'.gens = s.gens
  drawn : s'.drawn = s.drawn
  os : s'.os = s.os
  keep : ∀ b o, b ∉ l → s.heap.get? b = some o → s'.heap.get? b = some o
abbrev Ext (h h' : Heap) : Prop := ∀ b o, h.get? b = some o → h'.get? b = some o
theorem Kp.ext {s s' : Shared} (k : Kp [] s s') : Ext s.heap s'.heap := fun b o e => k.keep b o (by simp) e
theorem Kp.refl {s : Shared} {l : List Addr} : Kp l s s := ⟨rfl, rfl, rfl, fun _ _ _ e => e⟩
theorem Kp.of {s : Shared} {h : Heap} {tk : Nat} (k : Ext s.heap h) : Kp [] s { s with heap := h, toks := tk } := ⟨rfl, rfl, rfl, fun b o _ e => k b o e⟩
theorem Kp.ofBut {s : Shared} {h : Heap} {tk : Nat} {l : List Addr} (k : ∀ b o, b ∉ l → s.heap.get? b = some o → h.get? b = some o) : Kp l s { s with heap := h, toks := tk } := ⟨rfl, rfl, rfl, k⟩
theorem Kp.tok {s : Shared} {tk : Nat} {l : List Addr} : Kp l s { s with toks := tk } := ⟨rfl, rfl, rfl, fun _ _ _ e => e⟩
theorem Kp.push {s : Shared} {o : Obj} {l : List Addr} : Kp l s { s with heap := s.heap.push o } := ⟨rfl, rfl, rfl, fun _ _ _ e => Heap.get?_push_of_some _ e⟩
theorem Kp.trans {s₁ s₂ s₃ : Shared} {l l' : List Addr} (x : Kp l s₁ s₂) (y : Kp l' s₂ s₃) : Kp (l ++ l') s₁ s₃ :=
  ⟨y.gens.trans x.gens, y.drawn.trans x.drawn, y.os.trans x.os, fun b o hb e => by simp only [List.mem_append, not_or] at hb; exact y.keep b o hb.2 (x.keep b o hb.1 e)⟩
theorem Kp.then {s₁ s₂ s₃ : Shared} {l : List Addr} (x : Kp l s₁ s₂) (y : Kp [] s₂ s₃) : Kp l s₁ s₃ := by simpa using x.trans y
theorem Kp.and {s₁ s₂ s₃ : Shared} {l : List Addr} (x : Kp l s₁ s₂) (y : Kp l s₂ s₃) : Kp l s₁ s₃ :=
  ⟨y.gens.trans x.gens, y.drawn.trans x.drawn, y.os.trans x.os, fun b o hb e => y.keep b o hb (x.keep b o hb e)⟩
theorem Kp.mono {s₁ s₂ : Shared} {l l' : List Addr} (x : Kp l s₁ s₂) (h : ∀ b ∈ l, b ∈ l') : Kp l' s₁ s₂ := ⟨x.gens, x.drawn, x.os, fun b o hb e => x.keep b o (fun q => hb (h b q)) e⟩
theorem Kp.ns {s s' : Shared} {l : List Addr} {L : Addr} {m : Str → Option Value} (k : Kp l s s') (hn : s.heap.Ns L m) (h : L ∉ l) : s'.heap.Ns L m := hn.at' fun o e => k.keep _ _ h e
theorem Kp.ns0 {s s' : Shared} {L : Addr} {m : Str → Option Value} (k : Kp [] s s') (hn : s.heap.Ns L m) : s'.heap.Ns L m := k.ns hn (by simp)
theorem Kp.top {w : World} {s s' : Shared} (k : Kp [] s s') (T : Top0 w s.heap) : Top0 w s'.heap := T.keeps k.ext
/-- new places are not those that stood -/
theorem Kp.drop {s s' : Shared} {l : List Addr} (k : Kp l s s') (h : ∀ b ∈ l, s.heap.get? b = none) : Kp [] s s' := ⟨k.gens, k.drawn, k.os, fun b o _ e => k.keep b o (fun q => by rw [h b q] at e; cases e) e⟩

abbrev tupO (vs : List Value) : Obj := { cls := .type "tuple", data := .seq vs.toArray }
abbrev lstO (vs : Array Value) (n : Nat) : Obj := { cls := .type "list", data := .seq vs n }

section
variable {prog : Program} {w : World} {A : Around} {E : Value → Shared → Prop} {s : Shared} {x dx : Addr} {c v : Value} {env : Env}

theorem ev_int {M : Model} {i : Int} {k : Nat} {pos : Pos} {Q : Value → Shared → Prop} (h : ∀ s' t, Kp [] s s' → Q (.int i t) s') : wpAny M A (eval (.Constant (.int i) k pos) env) Q E s := wpAny_Constant_int (h _ _ .tok)
theorem ev_str {M : Model} {i : Str} {k : Nat} {pos : Pos} {Q : Value → Shared → Prop} (h : ∀ s' t, Kp [] s s' → Q (.str i t) s') : wpAny M A (eval (.Constant (.str i) k pos) env) Q E s := Calls.Constant_str (h _ _ .tok)

theorem ev_tup2 {M : Model} {e₁ e₂ : Expr} {k : Nat} {pos : Pos} {Q : Value → Shared → Prop}
    (h : wpAny M A (eval e₁ env) (fun v₁ s₁ => wpAny M A (eval e₂ env) (fun v₂ s₂ => ∀ s' a, Kp [] s₂ s' → s₂.heap.get? a = none → s'.heap.get? a = some (tupO [v₁, v₂]) → Q (.ref a) s') E s₁) E s)
    (he : starEach [e₁, e₂] env = (false, eval e₁ env) :: starEach [e₂] env := by rfl) (he' : starEach [e₂] env = (false, eval e₂ env) :: starEach [] env := by rfl) :
    wpAny M A (eval (.Tuple [e₁, e₂] k pos) env) Q E s :=
  Tuple_ (spliced_more (wpAny_mono h (fun v₁ s₁ h₁ => spliced_more (wpAny_mono h₁ (fun v₂ s₂ h₂ => spliced_none (wpAny_newObj_type (h₂ _ _ .push fresh_size (Heap.get?_push_size _ rfl)))) fun _ _ z => z) he') fun _ _ z => z) he)

theorem tup_get {t : Addr} {vs : List Value} {k : Int} {u : Tok} {y : Value} {value slice : Expr} {Q : Value → Shared → Prop} (ht : IsTup s.heap t vs.toArray) (h0 : 0 ≤ k) (hk : k < 2 ^ 63) (hx : vs[k.toNat]? = some y) (h : Q y s)
    (hs : subscripted slice false (.ref t) (.int k u) = operate [.ref t, .int k u] (getItem (.ref t) (.int k u)) := by with_unfolding_all rfl) :
    wpAny (model prog w) A (subscriptTail value slice (.ref t) (.int k u)) Q E s := by
  have hl : k.toNat < vs.length := (List.getElem?_eq_some_iff.mp hx).1
  refine item_tupleT ht (by omega) hk (j := k.toNat) ?_ hx h hs
  exact seqIndex_of h0 (by omega)
theorem isTup {h : Heap} {a : Addr} {vs : List Value} (e : h.get? a = some (tupO vs)) : IsTup h a vs.toArray := ⟨_, e, rfl, 0, rfl⟩

/-- a def of the text, called: it raises nothing -/
theorem call_f {f : Addr} {qual : Str} {st : Stmt} {cd : Value} {args : List Value} {binds : List (Str × Value)} {Q : Value → Shared → Prop} {n : Nat} (fn : FnAt s.heap f qual st cd) (T : Top0 w s.heap) (r : Room A (n + 1))
    (hbind : ∀ name doc pm ct, bindArgs (fnOf name qual (parsOfS st) (bodyOfS st) (scopeOfS st) .none .none doc pm none cd ct) ⟨args, []⟩ = pure binds)
    (hloc : ∀ x ∈ binds, (scopeOfS st).names.lookup x.1 = some .local)
    (h : ∀ A' s' L, Room A' n → Kp [] s s' → s.heap.get? L = none → s'.heap.Ns L (fun x => binds.reverse.lookup x) → Top0 w s'.heap →
      wpAny (model prog w) A' (execs (bodyOfS st) (envOf qual (scopeOfS st) L f cd)) (fun fl s' => Q (match fl with | .ret v => v | _ => .none) s') (fun _ _ => False) s')
    (hcell : ∀ x ∈ (scopeOfS st).names, x.2 ≠ .cell := by decide)
    (hco : (scopeOfS st).isCoroutine = false := by rfl) (hgen : (scopeOfS st).isGenerator = false := by rfl) (hk : (scopeOfS st).kind = .function := by rfl) :
    wpAny (model prog w) A (call (.ref f) args) Q E s :=
  call_fn fn T.lim r hbind hloc (fun h₁ L tk hL hns k => h _ ⟨h₁, s.gens, s.drawn, tk, s.os⟩ L (r.deeper _) (Kp.of k) hL hns (T.keeps k)) hcell hco hgen hk

theorem dx_getCodeK {e : Bool} {Q : Value → Shared → Prop} (T : Top0 w s.heap) (t : DxAt s.heap x dx c v) (hh : handedIn c = true) (h : ∀ s', Kp [] s s' → Q c s') : wpAny (model prog w) A (getAttr (.ref x) "_code" e) Q E s :=
  dx_getCode T.K t hh (h _ .tok)
theorem dx_getValK {e : Bool} {Q : Value → Shared → Prop} (T : Top0 w s.heap) (t : DxAt s.heap x dx c v) (hh : handedIn v = true) (h : ∀ s', Kp [] s s' → Q v s') : wpAny (model prog w) A (getAttr (.ref x) "_value" e) Q E s :=
  dx_getVal T.K t hh (h _ .tok)
theorem dx_getValueK {e : Bool} {n : Nat} {Q : Value → Shared → Prop} (T : Top0 w s.heap) (r : Room A (n + 2)) (t : DxAt s.heap x dx c v) (hh : handedIn v = true) (h : ∀ s', Kp [] s s' → Q v s') : wpAny (model prog w) A (getAttr (.ref x) "value" e) Q E s :=
  dx_getValue T r t hh fun _ _ k => h _ (Kp.of k)

/-- tag[i], within the call of __getitem__ -/
theorem dx_getitemC {n : Nat} {k : Int} {u : Tok} {y : Value} {Q : Value → Shared → Prop} (T : Top0 w s.heap) (r : Room A (n + 3)) (t : DxAt s.heap x dx c v) (hc : handedIn c = true) (hv : handedIn v = true) (h0 : 0 ≤ k) (hk : k < 2 ^ 63) (hy : [c, v][k.toNat]? = some y)
    (h : ∀ s', Kp [] s s' → Q y s') : wpAny (model prog w) A (call (.ref 110) [.ref x, .int k u]) Q E s := by
  refine call_f (binds := [("self", .ref x), ("index", .int k u)]) (fn_getitem T.K) T r (fun _ _ _ _ => rfl) (locs rfl) (fun A' s₁ L r₁ k₁ hL hns T₁ => ?_)
  have t₁ := t.keeps k₁.ext
  refine wpAny_execs_cons (wpAny_Return_some (Subscript_ (ev_tup2 (Attribute_Name_ (nm_l hns rfl (dx_getCodeK T₁ t₁ hc fun s₂ k₂ => Attribute_Name_ (nm_l (k₂.ns0 hns) rfl (dx_getValueK (k₂.top T₁) r₁ (t₁.keeps k₂.ext) hv fun s₃ k₃ s₄ a k₄ _ ha => ?_))))))))
  exact nm_l (k₄.ns0 (k₃.ns0 (k₂.ns0 hns))) rfl (tup_get (isTup ha) h0 hk hy (h _ (((k₁.then k₂).then k₃).then k₄)))

theorem entry_lsub : entryFor table "lifetime.subscript" = some Builtin.«lifetime.subscript» := entryFor_of_tree (by kernel_rfl)
theorem fn_data {K : Frag} {f : Addr} (e : fnIn K f = true) : ∃ a b d sl, K.lookup f = some ⟨a, b, .func d, sl⟩ := by
  unfold fnIn at e
  split at e
  · rename_i q; exact ⟨_, _, _, _, q⟩
  · cases e
theorem dx_sub {n : Nat} {k : Int} {u : Tok} {y : Value} {value slice : Expr} {Q : Value → Shared → Prop} (T : Top0 w s.heap) (r : Room A (n + 4)) (t : DxAt s.heap x dx c v) (hc : handedIn c = true) (hv : handedIn v = true) (h0 : 0 ≤ k) (hk : k < 2 ^ 63) (hy : [c, v][k.toNat]? = some y)
    (h : ∀ s', Kp [] s s' → Q y s')
    (hsl : subscripted slice true (.ref x) (.int k u) = runValue (.builtin "lifetime.subscript" ⟨[.ref x, .int k u], []⟩) := by with_unfolding_all rfl) :
    wpAny (model prog w) A (subscriptTail value slice (.ref x) (.int k u)) Q E s := by
  obtain ⟨fa, fb, fd, fsl, ef⟩ := fn_data (d_fn110 w)
  unfold subscriptTail getitemInPython
  refine wpAny_bind (wpAny_bind (wpAny_bind (t.inst.type.here ((looks_findIn T.K (d_getitem w)).here ?_))))
  refine wpAny_bind (wpAny_load (T.K _ _ ef) (wpAny_pure ?_))
  dsimp only
  rw [hsl]
  refine wpAny_bind (wpAny_runValue (codeAny_builtin entry_lsub ?_))
  unfold Builtin.«lifetime.subscript»
  refine wpAny_bind (special_fn T.K t.inst (d_getitem w) (d_f110 w) (dx_getitemC T r.in1 t hc hv h0 hk hy fun s' k' => ?_))
  refine wpAny_pure ?_
  exact wpAny_bind (wpAny_letTemporaryGo (wpAny_pure (h s' k')))
end
end Mine

namespace Mine
section
variable {prog : Program} {w : World} {A : Around} {E : Value → Shared → Prop} {s : Shared} {x dx : Addr} {c v : Value} {env : Env}

/-- DXFTag(c, v) -/
theorem dx_new {n : Nat} {Q : Value → Shared → Prop} (T : Top0 w s.heap) (r : Room A (n + 2))
    (h : ∀ s' x dx, Kp [] s s' → s.heap.get? x = none → s.heap.get? dx = none → DxAt s'.heap x dx c v → Q (.ref x) s') : wpAny (model prog w) A (call (.ref 149) [c, v]) Q E s := by
  obtain ⟨hh, g, d, t, os⟩ := s
  refine wpAny_call (make_core (makes_of T.K (d_makes w)) (looks_findIn T.K (d_init w)) (fun self => bind_fn T.K self (d_f73 w)) (.inl rfl) ?_)
  have k0 : Ext hh ((hh.push emptyDict).push (instObj 149 hh.objs.size)) := fun b o e => Heap.get?_push_of_some _ (Heap.get?_push_of_some _ e)
  have hx : ((hh.push emptyDict).push (instObj 149 hh.objs.size)).get? (hh.objs.size + 1) = some (instObj 149 hh.objs.size) := by heap_get
  have hd : ((hh.push emptyDict).push (instObj 149 hh.objs.size)).get? hh.objs.size = some emptyDict := by heap_get
  have fx : hh.get? (hh.objs.size + 1) = none := fresh_ge (Nat.le_succ _)
  have fd : hh.get? hh.objs.size = none := fresh_size
  have nxd : hh.objs.size + 1 ≠ hh.objs.size := Nat.succ_ne_self _
  dsimp only at h T
  generalize (hh.push emptyDict).push (instObj 149 hh.objs.size) = H0 at k0 hx hd ⊢
  generalize hX : hh.objs.size + 1 = X at hx fx nxd ⊢
  generalize hh.objs.size = D at hx hd fd nxd ⊢
  have T0 := T.keeps k0
  obtain ⟨⟨oc, od, sl, name, doc, pm, ct, ho⟩, hcd⟩ := fn_init T0.K
  refine codeAny_call_def (s := ⟨H0, g, d, t, os⟩) (by have := r.dp; simp only [depth_under_make]; omega) ho rfl T0.lim hcd rfl (BindsTo.of_eq (binds := [("self", .ref X), ("code", c), ("value", v)]) rfl) (show ∀ y ∈ (scopeOfS (clsSt 6 1)).names, y.2 ≠ .cell by decide +kernel) (locs rfl) (fun h₁ hns k => ?_) rfl rfl rfl
  dsimp only at hns k ⊢
  have T1 := T0.keeps k
  have nLx : H0.objs.size ≠ X := Nat.ne_of_gt (Heap.lt_size hx)
  have hx1 := k _ _ hx
  have hd1 := k _ _ hd
  refine wpAny_execs_cons (plainObj_wpAny_Assign_Attribute (nm_l hns rfl (nm_l hns rfl (dx_set T1.K ⟨hx1, rfl, rfl, hd1⟩ (d_k150 w) (d_y150 w) (d_s150 w) (by decide) ?_))))
  dsimp only
  generalize hu1 : h₁.update X (fun o => { o with slots := (o.slots ++ Array.replicate (0 + 1 - o.slots.size) none).setIfInBounds 0 (some c) }) = h₂
  have o2 : ∀ b o, b ≠ X → h₁.get? b = some o → h₂.get? b = some o := fun b o hb e => hu1 ▸ (Heap.get?_update_other _ _ (Ne.symm hb)).trans e
  have hx2 : h₂.get? X = some { cls := .ref 149, dict := some D, data := .plain, slots := #[some c] } := hu1 ▸ Heap.get?_update_self _ hx1 rfl
  have hd2 := o2 _ _ (Ne.symm nxd) hd1
  have hns2 := hns.at' fun o e => o2 _ _ nLx e
  have ne_old : ∀ b o, hh.get? b = some o → b ≠ X := fun b o e q => by rw [q, fx] at e; cases e
  have X2 : (KK w).In h₂ := T.K.keeps fun b o e => o2 _ _ (ne_old b o e) (k _ _ (k0 _ _ e))
  refine wpAny_execs_cons (plainObj_wpAny_Assign_Attribute (nm_l hns2 rfl (nm_l hns2 rfl (dx_set X2 ⟨hx2, rfl, rfl, hd2⟩ (d_k151 w) (d_y151 w) (d_s151 w) (by decide) ?_))))
  dsimp only
  generalize hu2 : h₂.update X (fun o => { o with slots := (o.slots ++ Array.replicate (1 + 1 - o.slots.size) none).setIfInBounds 1 (some v) }) = h₃
  have o3 : ∀ b o, b ≠ X → h₂.get? b = some o → h₃.get? b = some o := fun b o hb e => hu2 ▸ (Heap.get?_update_other _ _ (Ne.symm hb)).trans e
  have hx3 : h₃.get? X = some (Dx D c v) := hu2 ▸ Heap.get?_update_self _ hx2 rfl
  have hd3 := o3 _ _ (Ne.symm nxd) hd2
  refine wpAny_execs_nil ⟨rfl, ?_⟩
  exact h ⟨h₃, g, d, _, os⟩ X D ⟨rfl, rfl, rfl, fun b o _ e => o3 _ _ (ne_old b o e) (o2 _ _ (ne_old b o e) (k _ _ (k0 _ _ e)))⟩ fx fd ⟨hx3, hd3⟩

theorem eq_t {a b : Value} {da db : PyData} {as bs : List Addr} {n : Nat} {Q : Value → Shared → Prop} (r : Room A n) (ra : Reads s.heap a da as) (rb : Reads s.heap b db bs) (hs1 : SeqAt.shaped da = true) (hs2 : SeqAt.shaped db = true)
    (h : Q (.bool (PyData.eqv da db)) s) : wpAny (model prog w) A (compareOp .Eq a b) Q E s := eq_dataH ra rb hs1 hs2 r.u h
theorem ne_t {a b : Value} {da db : PyData} {as bs : List Addr} {n : Nat} {Q : Value → Shared → Prop} (r : Room A n) (ra : Reads s.heap a da as) (rb : Reads s.heap b db bs) (hs1 : SeqAt.shaped da = true) (hs2 : SeqAt.shaped db = true)
    (h : Q (.bool (!PyData.eqv da db)) s) : wpAny (model prog w) A (compareOp .NotEq a b) Q E s := ne_dataH ra rb hs1 hs2 r.u h

/-- tag == t, t a tuple of two plain values: the call of __eq__ -/
theorem dx_eqC {n : Nat} {b : Addr} {db dc dv : PyData} {bs : List Addr} {Q : Value → Shared → Prop} (T : Top0 w s.heap) (r : Room A (n + 4)) (t : DxAt s.heap x dx c v) (hc : handedIn c = true) (hv : handedIn v = true)
    (rc : Reads s.heap c dc []) (rv : Reads s.heap v dv []) (rb : Reads s.heap (.ref b) db bs) (hs1 : SeqAt.shaped (.tuple [dc, dv]) = true) (hs2 : SeqAt.shaped db = true)
    (h : ∀ s', Kp [] s s' → Q (.bool (PyData.eqv (.tuple [dc, dv]) db)) s') : wpAny (model prog w) A (call (.ref 124) [.ref x, .ref b]) Q E s := by
  refine call_f (binds := [("self", .ref x), ("other", .ref b)]) (fn_eq T.K) T r (fun _ _ _ _ => rfl) (locs rfl) (fun A' s₁ L r₁ k₁ hL hns T₁ => ?_)
  have t₁ := t.keeps k₁.ext
  refine wpAny_execs_cons (wpAny_Return_some (wpAny_Compare1 (ev_tup2 (Attribute_Name_ (nm_l hns rfl (dx_getCodeK T₁ t₁ hc fun s₂ k₂ => Attribute_Name_ (nm_l (k₂.ns0 hns) rfl (dx_getValueK (k₂.top T₁) (n := n + 1) r₁ (t₁.keeps k₂.ext) hv fun s₃ k₃ s₄ a k₄ _ ha => ?_))))))))
  have k : Kp [] s s₄ := ((k₁.then k₂).then k₃).then k₄
  exact nm_l (k₄.ns0 (k₃.ns0 (k₂.ns0 hns))) rfl (eq_t r₁ (reads_tuple_at ha rfl rfl (.cons (Reads.keeps k.ext rc) (.cons (Reads.keeps k.ext rv) .nil))) (Reads.keeps k.ext rb) hs1 hs2 (h _ k))

theorem dx_eq {n : Nat} {b : Addr} {ob : Obj} {db dc dv : PyData} {bs : List Addr} {Q : Value → Shared → Prop} (T : Top0 w s.heap) (r : Room A (n + 4)) (t : DxAt s.heap x dx c v) (hc : handedIn c = true) (hv : handedIn v = true)
    (rc : Reads s.heap c dc []) (rv : Reads s.heap v dv []) (hob : s.heap.get? b = some ob) (hcb : ob.cls = .type "tuple") (rb : Reads s.heap (.ref b) db bs) (hs1 : SeqAt.shaped (.tuple [dc, dv]) = true) (hs2 : SeqAt.shaped db = true)
    (h : ∀ s', Kp [] s s' → Q (.bool (PyData.eqv (.tuple [dc, dv]) db)) s') : wpAny (model prog w) A (compareOp .Eq (.ref x) (.ref b)) Q E s := by
  refine cmp_ofEq ?_
  have one : wpAny (model prog w) A (tryCompare (.ref x) (cmpInfo .Eq).2.1 (.ref b)) (fun r s' => ∃ v, r = some v ∧ Q v s') E s := by
    unfold tryCompare
    exact wpAny_bind (ifBound_K T.K t.inst (d_eq w) (beq_iff_eq.mpr (d_f124 w)) (dx_eqC T r t hc hv rc rv rb hs1 hs2 fun s' k' => wpAny_pure ⟨_, rfl, h s' k'⟩))
  have Lb : Looks (model prog w) s.heap (typeOf (.ref b)) (.type "tuple") := hcb ▸ (Looks.ld hob).andThen .now
  unfold richCompare
  simp only [oneThing_ref]
  refine wpAny_holding (wpAny_bind (wpAny_cRoomFor (by have := r.u; omega) ?_))
  refine wpAny_bind (t.inst.type.here (wpAny_bind (Lb.here ?_)))
  rw [if_pos (by decide)]
  refine wpAny_bind ((looks_subIn T.K (d_notFirst w)).here ?_)
  simp only [Bool.false_eq_true, if_false]
  refine wpAny_bind (wpAny_mono one (fun r s' z => ?_) fun _ _ e => e)
  obtain ⟨v, rfl, hq⟩ := z
  exact wpAny_pure hq
end
end Mine

namespace Mine
section
variable {prog : Program} {w : World} {A : Around} {E : Value → Shared → Prop} {R : Result → Shared → Prop} {s : Shared} {env : Env}

theorem ext_tr {h₁ h₂ h₃ : Heap} (x : Ext h₁ h₂) (y : Ext h₂ h₃) : Ext h₁ h₃ := fun b o e => y b o (x b o e)
/-- C, D, I are not in B -/
def Off (B : Heap) (C D I : Addr) : Prop := B.get? C = none ∧ B.get? D = none ∧ B.get? I = none
def But3 (h B : Heap) (C D I : Addr) : Prop := ∀ b o, b ≠ C → b ≠ D → b ≠ I → h.get? b = some o → B.get? b = some o

theorem off_hide {h : Heap} {C D I : Addr} : Off (hideAll h [C, D, I]) C D I := ⟨hideAll_none _ (by simp), hideAll_none _ (by simp), hideAll_none _ (by simp)⟩
theorem but_hide {h : Heap} {C D I : Addr} : But3 h (hideAll h [C, D, I]) C D I := fun b o h1 h2 h3 e => hideAll_get _ e (by simp [h1, h2, h3])
theorem Off.ext {B h : Heap} {C D I : Addr} (f : Off B C D I) (k : Ext B h) : Ext B (hideAll h [C, D, I]) := fun b o e => hideAll_get _ (k b o e) (by
  simp only [List.mem_cons, List.not_mem_nil, or_false, not_or]
  exact ⟨fun q => by rw [q, f.1] at e; (cases e), fun q => by rw [q, f.2.1] at e; (cases e), fun q => by rw [q, f.2.2] at e; (cases e)⟩)
theorem Off.nC {B : Heap} {C D I : Addr} (f : Off B C D I) {b : Addr} {o : Obj} (e : B.get? b = some o) : b ≠ C ∧ b ≠ D ∧ b ≠ I :=
  ⟨fun q => by rw [q, f.1] at e; (cases e), fun q => by rw [q, f.2.1] at e; (cases e), fun q => by rw [q, f.2.2] at e; (cases e)⟩

/-- a comprehension's turns: J i ys B says what holds of the list ys behind i items, B what is known of the heap -/
def CompTurn (prog : Program) (w : World) (A : Around) (x : Str) (ifs : List Expr) (elt : Expr) (n : Nat) (P : Nat → Value → Prop) (J : Nat → List Value → Heap → Prop) (B₀ : Heap) (C D I : Addr) (cenv : Env) : Prop :=
  ∀ i v s₁ m₁ ys B, i < n → P i v → Ext B₀ B → Ext B s₁.heap → Off B C D I → (∃ o, s₁.heap.get? D = some o) → (∃ o, s₁.heap.get? I = some o) → s₁.heap.Ns C m₁ → m₁ x = some v → J i ys B →
    wpAny (model prog w) A (forIn ifs true fun c r => if r = true then do let ok ← isTrue c cenv (eval c cenv); pure (ForInStep.yield ok) else pure (ForInStep.yield r))
      (fun ok s₂ => Kp [] s₁ s₂ ∧ (if ok = true then wpAny (model prog w) A (eval elt cenv) (fun y s₃ => Kp [] s₂ s₃ ∧ ∀ B', Ext B B' → But3 s₃.heap B' C D I → J (i + 1) (ys ++ [y]) B') (fun _ _ => False) s₂
        else ∀ B', Ext B B' → J (i + 1) ys B')) (fun _ _ => False) s₁

theorem comp_loop {elt iter : Expr} {x : Str} {px : Pos} {ifs : List Expr} {scope : Scope} {pos : Pos} {I D : Addr} {fp : List Addr} {n : Nat} {P : Nat → Value → Prop} {St : Nat → Heap → Prop}
    {cenv : Env} {m : Str → Option Value} {B₀ : Heap} {J : Nat → List Value → Heap → Prop} {c₀ : Nat} (W : Walks prog w A I fp [I] n P St) (hsz : n ≤ sizeLine)
    (hx : cenv.kindOf x = some .local) (hp : (cenv.scope.kind == .class || (cenv.scope.kind == .module && cenv.locals != cenv.globals)) = false)
    (hDC : D ≠ cenv.locals) (hDf : D ∉ fp) (hCf : cenv.locals ∉ fp)
    (hst : St 0 s.heap) (hI : ∃ o, s.heap.get? I = some o) (hacc : s.heap.get? D = some (lstO #[] c₀)) (hn : s.heap.Ns cenv.locals m) (hB : Ext B₀ s.heap) (hoff : Off B₀ cenv.locals D I) (hJ : J 0 [] B₀)
    (turn : CompTurn prog w A x ifs elt n P J B₀ cenv.locals D I cenv)
    (hstI : ∀ i h, St i h → ∃ o, h.get? I = some o)
    (hR : ∀ s' ys B c m', Kp [cenv.locals, D, I] s s' → s'.heap.get? D = some (lstO ys.toArray c) → s'.heap.Ns cenv.locals m' → Ext B₀ B → Ext B s'.heap → Off B cenv.locals D I → J n ys B → R (.ok .next) s') :
    codeAny (model prog w) A (.compLoop (.ListComp elt [⟨.Name x px, iter, ifs, 0⟩] scope pos) 0 (.ref I) (.ref D) cenv) R s := by
  have hIf : I ∈ fp := W.sub I (by simp)
  have hIC : I ≠ cenv.locals := fun e => hCf (e ▸ hIf)
  have hID : I ≠ D := fun e => hDf (e ▸ hIf)
  refine codeAny_compLoop_tests
    (fun k s' => ∃ i ys B c m', k = n + 1 - i ∧ i ≤ n ∧ ys.length ≤ i ∧ Kp [cenv.locals, D, I] s s' ∧ St i s'.heap ∧ s'.heap.get? D = some (lstO (List.toArray ys) c) ∧ s'.heap.Ns cenv.locals m' ∧ Ext B₀ B ∧ Ext B s'.heap ∧ Off B cenv.locals D I ∧ J i ys B) ?_ (n + 1)
    ⟨0, [], B₀, c₀, m, rfl, Nat.zero_le _, Nat.le_refl _, .refl, hst, hacc, hn, fun _ _ e => e, hB, hoff, hJ⟩
  rintro k s₀ ⟨i, ys, B, c, m', rfl, hi, hys, hk, hst', hacc', hn', hB', hBs, hof, hJi⟩
  by_cases hlt : i < n
  · refine W.item i _ _ _ hlt hst' fun v h₁ tk₁ hPv hst₁ hk₁ => ?_
    have kp₁ : Kp [I] s₀ { s₀ with heap := h₁, toks := tk₁ } := .ofBut hk₁
    have hst₁ : St (i + 1) ({ s₀ with heap := h₁, toks := tk₁ } : Shared).heap := hst₁
    generalize { s₀ with heap := h₁, toks := tk₁ } = s₁ at kp₁ hst₁ ⊢
    have hn₁ := kp₁.ns hn' (by simp [Ne.symm hIC])
    refine wpAny_assign_Name (wpAny_storeName_local hx hn₁ (fun h₂ hn₂ hs₂ => ?_) hp)
    have kp₂ : Kp [cenv.locals] s₁ { s₁ with heap := h₂, toks := s₁.toks + 1 } := .ofBut fun b o hb e => hs₂.extBut b o (by simpa using hb) e
    have hst₂ : St (i + 1) ({ s₁ with heap := h₂, toks := s₁.toks + 1 } : Shared).heap := W.frame _ _ _ hst₁ fun b hb o e => hs₂.extBut b o (fun q => hCf (q ▸ hb)) e
    have hn₂ : ({ s₁ with heap := h₂, toks := s₁.toks + 1 } : Shared).heap.Ns cenv.locals (fun z => if z = x then some v else m' z) := hn₂
    generalize ({ s₁ with heap := h₂, toks := s₁.toks + 1 } : Shared) = s₂ at kp₂ hst₂ hn₂ ⊢
    have hB₂ : Ext B s₂.heap := fun b o e => kp₂.keep b o (by simp [(hof.nC e).1]) (kp₁.keep b o (by simp [(hof.nC e).2.2]) (hBs b o e))
    have hD₂ := kp₂.keep _ _ (by simp [hDC]) (kp₁.keep _ _ (by simp [Ne.symm hID]) hacc')
    have k₂ : Kp [cenv.locals, D, I] s s₂ := (hk.and (kp₁.mono (by simp))).and (kp₂.mono (by simp))
    refine wpAny_mono (turn i v s₂ _ ys B hlt hPv hB' hB₂ hof ⟨_, hD₂⟩ (hstI _ _ hst₂) hn₂ (by simp) hJi) (fun ok s₃ h₃ => ?_) fun _ _ e => e.elim
    obtain ⟨kp₃, h₃⟩ := h₃
    have hst₃ : St (i + 1) s₃.heap := W.frame _ _ _ hst₂ fun b hb o e => kp₃.ext b o e
    have k₃ := k₂.then kp₃
    cases ok with
    | false =>
      simp only [Bool.false_eq_true, if_false] at h₃ ⊢
      exact ⟨n + 1 - (i + 1), by omega, i + 1, ys, B, c, _, rfl, hlt, Nat.le_succ_of_le hys, k₃, hst₃, kp₃.ext _ _ hD₂, kp₃.ns0 hn₂, hB', ext_tr hB₂ kp₃.ext, hof, h₃ B fun _ _ e => e⟩
    | true =>
      simp only [if_true] at h₃ ⊢
      refine wpAny_mono h₃ (fun y s₄ h₄ => ?_) fun _ _ e => e.elim
      obtain ⟨kp₄, h₄⟩ := h₄
      have hst₄ : St (i + 1) s₄.heap := W.frame _ _ _ hst₃ fun b hb o e => kp₄.ext b o e
      have hD₄ := kp₄.ext _ _ (kp₃.ext _ _ hD₂)
      have hB₄ : Ext B s₄.heap := ext_tr (ext_tr hB₂ kp₃.ext) kp₄.ext
      refine wpAny_list_append_plain ⟨_, hD₄⟩ (hsz := by simp; omega) fun h₅ hl₅ hs₅ => ?_
      obtain ⟨c', hl₅⟩ := hl₅
      have kp₅ : Kp [D] s₄ { s₄ with heap := h₅ } := .ofBut fun b o hb e => hs₅.extBut b o (by simpa using hb) e
      have ofB := off_hide (h := s₄.heap) (C := cenv.locals) (D := D) (I := I)
      refine ⟨n + 1 - (i + 1), by omega, i + 1, ys ++ [y], hideAll s₄.heap [cenv.locals, D, I], c', (fun z => if z = x then some v else m' z), rfl, hlt, by simp; omega, (k₃.then kp₄).and (kp₅.mono (by simp)), ?_, ?_, ?_, ext_tr hB' (hof.ext hB₄), ?_, ofB, h₄ _ (hof.ext hB₄) but_hide⟩
      · exact W.frame _ _ _ hst₄ fun b hb o e => hs₅.extBut b o (fun q => hDf (q ▸ hb)) e
      · simpa using hl₅
      · exact kp₅.ns (kp₄.ns0 (kp₃.ns0 hn₂)) (by simp [Ne.symm hDC])
      · exact fun b o e => hs₅.extBut b o (ofB.nC e).2.1 (of_hideAll _ e)
  · have hin : i = n := by omega
    subst hin
    refine W.done _ _ _ hst' fun h₁ tk₁ hk₁ => ?_
    have kp₁ : Kp [I] s₀ { s₀ with heap := h₁, toks := tk₁ } := .ofBut hk₁
    generalize { s₀ with heap := h₁, toks := tk₁ } = s₁ at kp₁ ⊢
    exact hR s₁ ys B c m' (hk.and (kp₁.mono (by simp))) (kp₁.keep _ _ (by simp [Ne.symm hID]) hacc') (kp₁.ns hn' (by simp [Ne.symm hIC])) hB' (fun b o e => kp₁.keep b o (by simp; rintro rfl; rw [hof.2.2] at e; cases e) (hBs b o e)) hof hJi
end
end Mine

namespace Mine
section
variable {prog : Program} {w : World} {A : Around} {E : Value → Shared → Prop} {s : Shared} {env : Env}

theorem comp_block {elt iter : Expr} {x : Str} {px : Pos} {ifs : List Expr} {scope : Scope} {cl : List (Str × Addr)} {pos : Pos} {I : Addr} {fp : List Addr} {n : Nat} {P : Nat → Value → Prop} {St : Nat → Heap → Prop}
    {B₀ : Heap} {J : Nat → List Value → Heap → Prop} {RR : Value → Addr → Result → Shared → Prop} (W : Walks prog w A I fp [I] n P St) (hsz : n ≤ sizeLine)
    (hcell : ∀ y ∈ scope.names, y.2 ≠ .cell) (hkind : scope.kind = .function) (hx : scope.names.lookup x = some .local) (hst : St 0 s.heap) (hfp : ∀ b ∈ fp, b < s.heap.objs.size) (hstI : ∀ i h, St i h → ∃ o, h.get? I = some o)
    (hB : Ext B₀ s.heap) (hBI : B₀.get? I = none) (hJ : J 0 [] B₀)
    (turn : ∀ C D, s.heap.get? C = none → s.heap.get? D = none → CompTurn prog w A x ifs elt n P J B₀ C D I (compEnvC scope cl C env))
    (hRR : ∀ D C s' ys B c m', Kp [I] s s' → s.heap.get? D = none → s.heap.get? C = none → D ≠ C → s'.heap.get? D = some (lstO (List.toArray ys) c) → s'.heap.Ns C m' → Ext B₀ B → Ext B s'.heap → Off B C D I → J n ys B → RR (.ref D) C (.ok .next) s') :
    wpAny (model prog w) A (newList []) (fun acc s₃ => wpAny (model prog w) A (newFunctionEnv scope env.globals cl [] env.qual none .none (some env)) (fun cenv s₄ =>
      codeAny (model prog w) A (.compStart (.ListComp elt [⟨.Name x px, iter, ifs, 0⟩] scope pos) 0 (.ref I) acc { cenv with scope := relabel scope env }) (RR acc cenv.locals) s₄) E s₃) E s := by
  refine wpAny_newObj_type (wpAny_newFunctionEnv hcell (by intro y hy; simp at hy) (fun h₁ hns₁ hsb₁ => ?_) hkind)
  dsimp only at hns₁ hsb₁ ⊢
  generalize hH2 : s.heap.push { cls := .type "list", dict := none, data := .seq ([] : List Value).toArray } = H2 at hns₁ hsb₁ ⊢
  have hC : H2.objs.size = s.heap.objs.size + 1 := by rw [← hH2, Heap.size_push]
  have hD : H2.get? s.heap.objs.size = some (lstO #[] 0) := hH2 ▸ Heap.get?_push_size _ rfl
  have kH2 : Ext s.heap H2 := fun b o e => hH2 ▸ Heap.get?_push_of_some _ e
  have fD : s.heap.get? s.heap.objs.size = none := fresh_size
  have fC : s.heap.get? H2.objs.size = none := fresh_ge (by rw [hC]; exact Nat.le_succ _)
  have hDC : s.heap.objs.size ≠ H2.objs.size := by rw [hC]; exact Nat.ne_of_lt (Nat.lt_succ_self _)
  have hDf : s.heap.objs.size ∉ fp := fun hm => Nat.lt_irrefl _ (hfp _ hm)
  have hCf : H2.objs.size ∉ fp := fun hm => by have := hfp _ hm; rw [hC] at this; exact Nat.lt_irrefl _ (Nat.lt_of_succ_lt this)
  generalize s.heap.objs.size = D at hD fD hDC hDf ⊢
  generalize H2.objs.size = C at hns₁ hsb₁ fC hDC hCf ⊢
  have old : Ext s.heap h₁ := fun b o e => hsb₁.extBut b o (fun q => by rw [q, fC] at e; cases e) (Heap.get?_push_of_some _ (kH2 b o e))
  have hacc : h₁.get? D = some (lstO #[] 0) := hsb₁.extBut _ _ hDC (Heap.get?_push_of_some _ hD)
  have hst₁ : St 0 h₁ := W.frame _ _ _ hst fun b _ o e => old b o e
  have kp : ∀ tk, Kp [] s { s with heap := h₁, toks := tk } := fun tk => Kp.of old
  have fB : ∀ b, s.heap.get? b = none → B₀.get? b = none := fun b hb => by
    cases q : B₀.get? b with
    | none => rfl
    | some o => rw [hB b o q] at hb; cases hb
  have loop : ∀ s₃ : Shared, Kp [] s s₃ → s₃.heap = h₁ →
      codeAny (model prog w) A (.compLoop (.ListComp elt [⟨.Name x px, iter, ifs, 0⟩] scope pos) 0 (.ref I) (.ref D) (compEnvC scope cl C env)) (RR (.ref D) C) s₃ := by
    intro s₃ kp₃ hh
    have hI := hstI _ _ hst₁
    rw [← hh] at hst₁ hacc hns₁ hI
    refine comp_loop (cenv := compEnvC scope cl C env) (J := J) (B₀ := B₀) W hsz (lookup_relabel_local hx) (by simp [compEnvC, relabel, hkind]) hDC hDf hCf hst₁ hI hacc hns₁ (ext_tr hB kp₃.ext) ⟨fB _ fC, fB _ fD, hBI⟩ hJ (turn C D fC fD) hstI fun s' ys B c m' k' hD' hC' e1 e2 e3 hJ' => ?_
    refine hRR D C s' ys B c m' ?_ fD fC hDC hD' hC' e1 e2 e3 hJ'
    have k'' := (kp₃.mono (l' := [C, D, I]) (by simp)).and k'
    exact ⟨k''.gens, k''.drawn, k''.os, fun b o hb e => k''.keep b o (by
      simp only [List.mem_cons, List.not_mem_nil, or_false, not_or] at hb ⊢
      exact ⟨fun q => by rw [q, fC] at e; (cases e), fun q => by rw [q, fD] at e; (cases e), hb⟩) e⟩
  exact codeAny_compStart_list (loop _ (kp _) rfl) (W.self 0 _ _ _ hst₁ (loop _ (kp _) rfl))

/-- what a comprehension wants of its iterator -/
def CompOk (prog : Program) (w : World) (A : Around) (env : Env) (scope : Scope) (cl : List (Str × Addr)) (x : Str) (ifs : List Expr) (elt : Expr) (it : Value) (s₂ : Shared) (l : List Addr) (Fin : Addr → Nat → List Value → Heap → Shared → Prop) : Prop :=
  ∃ I fp n P St B₀ J, it = .ref I ∧ Walks prog w A I fp [I] n P St ∧ n ≤ sizeLine ∧ St 0 s₂.heap ∧ (∀ b ∈ fp, b < s₂.heap.objs.size) ∧ (∀ i h, St i h → ∃ o, h.get? I = some o) ∧
    Ext B₀ s₂.heap ∧ B₀.get? I = none ∧ J 0 [] B₀ ∧ (∀ C D, s₂.heap.get? C = none → s₂.heap.get? D = none → CompTurn prog w A x ifs elt n P J B₀ C D I (compEnvC scope cl C env)) ∧
    ∀ s' D c ys B, Kp (I :: l) s₂ s' → s₂.heap.get? D = none → s'.heap.get? D = some (lstO (List.toArray ys) c) → Ext B₀ B → (∀ b o, b ∉ l → B.get? b = some o → s'.heap.get? b = some o) → B.get? D = none → J n ys B → Fin D c ys B s'

theorem comp_eval {elt iter : Expr} {x : Str} {px : Pos} {ifs : List Expr} {scope : Scope} {cl : List (Str × Addr)} {pos : Pos} {Q : Value → Shared → Prop}
    (hclos : closureFor scope env = pure cl) (hcell : ∀ y ∈ scope.names, y.2 ≠ .cell) (hkind : scope.kind = .function)
    (hnames : ∀ y ∈ scope.names, y.2 = .local → scope.names.lookup y.1 = some .local) (hx : scope.names.lookup x = some .local)
    (h : wpAny (model prog w) A (eval iter env) (fun xv s₁ => wpAny (model prog w) A (pyIter xv) (fun it s₂ => CompOk prog w A env scope cl x ifs elt it s₂ [] fun D _ _ _ s' => Q (.ref D) s') E s₁) E s)
    (hs : ∀ x, foldedSetIterable iter env x = pure x := by intro _; rfl) :
    wpAny (model prog w) A (eval (.ListComp elt [⟨.Name x px, iter, ifs, 0⟩] scope pos) env) Q E s := by
  rw [eval_ListComp]
  refine wpAny_comprehension_free (use := none) rfl hs hclos hkind hnames (wpAny_mono h (fun xv s₁ h₁ => wpAny_mono h₁ (fun it s₂ h₂ => ?_) fun _ _ e => e) fun _ _ e => e)
  obtain ⟨I, fp, n, P, St, B₀, J, rfl, W, hsz, hst, hfp, hstI, hB, hBI, hJ, turn, hQ⟩ := h₂
  refine comp_block (RR := fun acc C => compPost (model prog w) A E none Q acc C) W hsz hcell hkind hx hst hfp hstI hB hBI hJ turn ?_
  intro D C s' ys B c m' k fD fC hDC hD hC e1 e2 e3 hJ'
  refine ⟨m', hC, fun h'' hs'' => ?_⟩
  have kp : Kp [C] s' { s' with heap := h'' } := .ofBut fun b o hb e => hs''.extBut b o (by simpa using hb) e
  refine hQ _ D c ys B ?_ fD (kp.keep _ _ (by simp [hDC]) hD) e1 (fun b o _ e => kp.keep b o (by simp [(e3.nC e).1]) (e2 b o e)) e3.2.1 hJ'
  have k'' := (k.mono (l' := [C, I]) (by simp)).and (kp.mono (l' := [C, I]) (by simp))
  exact ⟨k''.gens, k''.drawn, k''.os, fun b o hb e => k''.keep b o (by simp only [List.mem_cons, List.not_mem_nil, or_false, not_or] at hb ⊢; exact ⟨fun q => by rw [q, fC] at e; (cases e), hb⟩) e⟩

theorem comp_assign {elt iter : Expr} {x y : Str} {px py : Pos} {ifs : List Expr} {scope : Scope} {cl : List (Str × Addr)} {pos spos : Pos} {Q : Flow → Shared → Prop}
    (hsw : swapsWith (.ListComp elt [⟨.Name x px, iter, ifs, 0⟩] scope pos) (some (.Name y py)) spos.line env = pure true)
    (hclos : closureFor scope env = pure cl) (hcell : ∀ z ∈ scope.names, z.2 ≠ .cell) (hkind : scope.kind = .function)
    (hnames : ∀ z ∈ scope.names, z.2 = .local → scope.names.lookup z.1 = some .local) (hx : scope.names.lookup x = some .local)
    (hy : env.kindOf y = some .local) (hp : (env.scope.kind == .class || (env.scope.kind == .module && env.locals != env.globals)) = false)
    (h : wpAny (model prog w) A (eval iter env) (fun xv s₁ => wpAny (model prog w) A (pyIter xv) (fun it s₂ => ∃ m, s₂.heap.Ns env.locals m ∧ (∀ I, it = .ref I → I ≠ env.locals) ∧ CompOk prog w A env scope cl x ifs elt it s₂ [env.locals] fun D c ys B s' =>
      s'.heap.Ns env.locals (fun z => if z = y then some (.ref D) else m z) → Q .next s') E s₁) E s)
    (hs : ∀ x, foldedSetIterable iter env x = pure x := by intro _; rfl) :
    wpAny (model prog w) A (exec (.Assign [.Name y py] (.ListComp elt [⟨.Name x px, iter, ifs, 0⟩] scope pos) spos) env) Q E s := by
  rw [exec_Assign_Name_used _ _ _ _ hsw]
  refine wpAny_bind (wpAny_standAt (wpAny_bind ?_))
  show wpAny _ A (do let _ ← comprehension (.ListComp elt [⟨.Name x px, iter, ifs, 0⟩] scope pos) scope env _ (newList []) false (eval iter env) (some (assign (.Name y py) env))) _ _ s
  refine wpAny_bind (wpAny_mono (wpAny_comprehension_free (use := some (assign (.Name y py) env)) (Q := fun _ s' => Q .next s') rfl hs hclos hkind hnames
    (wpAny_mono h (fun xv s₁ h₁ => wpAny_mono h₁ (fun it s₂ h₂ => ?_) fun _ _ e => e) fun _ _ e => e)) (fun _ s' hq => wpAny_pure (wpAny_pure hq)) fun _ _ e => e)
  obtain ⟨m, hn, hIL, I, fp, n, P, St, B₀, J, rfl, W, hsz, hst, hfp, hstI, hB, hBI, hJ, turn, hQ⟩ := h₂
  have hIL := hIL I rfl
  refine comp_block (RR := fun acc C => compPost (model prog w) A E (some (assign (.Name y py) env)) (fun _ s' => Q .next s') acc C) W hsz hcell hkind hx hst hfp hstI hB hBI hJ turn ?_
  intro D C s' ys B c m' k fD fC hDC hD hC e1 e2 e3 hJ'
  have hLC : env.locals ≠ C := fun q => by obtain ⟨o, _, _, ho, _⟩ := hn; rw [q, fC] at ho; cases ho
  have hLD : env.locals ≠ D := fun q => by obtain ⟨o, _, _, ho, _⟩ := hn; rw [q, fD] at ho; cases ho
  show wpAny _ A (assign (.Name y py) env (.ref D)) _ _ _
  refine wpAny_assign_Name (wpAny_storeName_local hy (k.ns hn (by simp [Ne.symm hIL])) (fun h₂ hn₂ hs₂ => ?_) hp)
  refine ⟨m', hC.sameBut hs₂ (Ne.symm hLC), fun h₃ hs₃ => ?_⟩
  have kp : Kp [env.locals, C] s' { s' with heap := h₃, toks := s'.toks + 1 } := .ofBut fun b o hb e => by
    simp only [List.mem_cons, List.not_mem_nil, or_false, not_or] at hb
    exact hs₃.extBut b o hb.2 (hs₂.extBut b o hb.1 e)
  refine hQ _ D c ys B ?_ fD (kp.keep _ _ (by simp [hDC, Ne.symm hLD]) hD) e1 (fun b o hb e => kp.keep b o (by simp at hb; simp [(e3.nC e).1, hb]) (e2 b o e)) e3.2.1 hJ' (hn₂.sameBut hs₃ hLC)
  have k'' := (k.mono (l' := [C, I, env.locals]) (by simp)).and (kp.mono (l' := [C, I, env.locals]) (by simp))
  exact ⟨k''.gens, k''.drawn, k''.os, fun b o hb e => k''.keep b o (by simp only [List.mem_cons, List.not_mem_nil, or_false, not_or] at hb ⊢; exact ⟨fun q => by rw [q, fC] at e; (cases e), hb⟩) e⟩
end
end Mine

namespace Mine

theorem nf_exc (w : World) : excIn (KK w) 364 bmE "Exception.__new__" = true := by kernel_rfl
theorem ds_exc (w : World) : excIn (KK w) 44 bmE "Exception.__new__" = true := by kernel_rfl
theorem ds_nf (w : World) : mroIn (KK w) 44 (.ref 364) = some false := by kernel_rfl

section
variable {prog : Program} {w : World} {A : Around} {E : Value → Shared → Prop} {s : Shared}
theorem issub_self {C : Addr} {tl : List Value} {N : Addr} {nm q : Str} {bs : List Value} {hdct : Bool} {sn : List Str} {sub : List Value} {ab : Bool} {col : Option Bool} {dd : Option Addr} {k0 k1 k2 k3 k5 : Option Value} {ni : String} {Q : Value → Shared → Prop}
    (hC : s.heap.get? C = some (excClassObj nm q C N bs tl hdct sn sub ab col dd k0 k1 k2 k3 k5 ni)) (hq : Q (.bool true) s) : wpAny (model prog w) A (call (.builtin "issubclass") [.ref C, .ref C]) Q E s := by
  refine call_function_meets F.kind_issubclass F.plain_issubclass F.entry_issubclass (F.args_issubclass_2 _ _) (S := fun _ R s => s.heap.get? C = some (excClassObj nm q C N bs tl hdct sn sub ab col dd k0 k1 k2 k3 k5 ni) ∧ R (.ok (.ret (.bool true))) s) (fun prog w A R s hs => ?_) ⟨hC, hq⟩
  obtain ⟨hC, hR⟩ := hs
  refine issubclass_outer ?_
  unfold Builtin.«issubclass.nested» rawInt
  have hcC : (Value.ref C :: tl).contains (.ref C) = true := by simp
  have tyC : Looks (model prog w) s.heap (typeOf (.ref C)) (.type "type") := (Looks.ld hC).andThen .now
  have isT : ∀ {Q : Bool → Shared → Prop} {E : Value → Shared → Prop}, Q true s → wpAny (model prog w) A.in1 (isType (Value.ref C)) Q E s :=
    fun hq => wpAny_bind (wpAny_loadPart hC (wpAny_pure hq))
  dsimp only
  refine wpAny_bind (tyC.here ?_)
  rw [if_pos (by decide)]
  refine wpAny_bind (wpAny_bind (isT (wpAny_bind (isT ?_))))
  rw [if_pos (by decide)]
  obtain ⟨hp, g, d, t, os⟩ := s
  refine wpAny_isSubtype_exc hC ?_
  rw [hcC]
  exact wpAny_pure hR
end

section
variable {prog : Program} {w : World} {A : Around} {E : Value → Shared → Prop} {s : Shared} {env : Env}

/-- raise C, C a class of the text's own, no call -/
theorem raise_cls {C : Addr} {x : Expr} {pos : Pos} {Q : Flow → Shared → Prop} (O : ExcAt s.heap C) (hh : A.handled = none)
    (hx : wpAny (model prog w) A (eval x env) (fun v s₁ => v = .ref C ∧ s₁ = s) E s)
    (h : ∀ h' e, Heap.MadeExcOf s.heap h' e (.ref C) [] → E (.ref e) { s with heap := h' }) :
    wpAny (model prog w) A (exec (.Raise (some x) none pos) env) Q E s := by
  obtain ⟨_, _, O⟩ := O
  obtain ⟨tl, N, nm, q, bs, hdct, sn, sub, ab, col, dd, k0, k1, k2, k3, k5, mN, hC, hN, hni, T⟩ := O.obj
  have hbB : tl.contains (.type "BaseException") = true := T.hasType (by decide)
  have hcB : (Value.ref C :: tl).contains (.type "BaseException") = true := by rw [List.contains_cons, hbB, Bool.or_true]
  have hcC : (Value.ref C :: tl).contains (.ref C) = true := by simp
  show wpAny (model prog w) A (do standAt pos; raiseStmt env (some (do let v ← eval x env; standAt pos; pure v)) none) Q E s
  refine wpAny_bind (wpAny_standAt ?_)
  unfold raiseStmt
  dsimp only
  refine wpAny_bind (wpAny_bind (wpAny_mono hx (fun v s₁ h₁ => wpAny_bind (wpAny_standAt (wpAny_pure ?_))) fun _ _ e => e))
  obtain ⟨rfl, hs₁⟩ := h₁
  subst s₁
  refine wpAny_bind (wpAny_pure ?_)
  dsimp only
  refine wpAny_bind (wpAny_holding ?_)
  obtain ⟨hp, g, d, tk, os⟩ := s
  dsimp only at hC hN T h
  unfold excFromValue isExcClass
  have callE : ∀ {Q : Value → Shared → Prop} {E : Value → Shared → Prop}, (∀ h' e, Heap.MadeExcOf hp h' e (.ref C) [] → Q (.ref e) ⟨h', g, d, tk, os⟩) → wpAny (model prog w) A (call (.ref C)) Q E ⟨hp, g, d, tk, os⟩ :=
    fun hq => wpAny_call_exc_subU PySem.F.excBase_Exception (by decide) PySem.F.excBase_Exception T hC hN hni hq
  have isT : ∀ {hp'} {Q : Bool → Shared → Prop} {E : Value → Shared → Prop}, hp'.get? C = some (excClassObj nm q C N bs tl hdct sn sub ab col dd k0 k1 k2 k3 k5 "Exception.__new__") → Q true ⟨hp', g, d, tk, os⟩ → wpAny (model prog w) A (isType (Value.ref C)) Q E ⟨hp', g, d, tk, os⟩ :=
    fun hC hq => wpAny_bind (wpAny_loadPart_at hC (wpAny_pure hq))
  refine wpAny_bind ?_
  refine wpAny_bind (isT hC ?_)
  rw [if_pos rfl]
  refine wpAny_isSubtype_exc hC ?_
  rw [hcB, if_pos rfl]
  refine wpAny_bind (callE fun h' e hm => ?_)
  obtain ⟨t, ht, _, _⟩ := hm.there
  have hC' := hm.keeps _ _ hC
  have tyE : Looks (model prog w) h' (typeOf (.ref e)) (.ref C) := (Looks.ld ht).andThen .now
  unfold isInstance
  refine wpAny_bind (wpAny_bind (tyE.here (wpAny_isSubtype_exc hC' ?_)))
  rw [hcB]
  refine wpAny_pure ?_
  refine wpAny_bind (isT hC' ?_)
  rw [if_pos rfl]
  refine wpAny_bind (wpAny_holding ?_)
  unfold raisedFor
  simp only [Bool.false_eq_true, if_false]
  refine wpAny_bind (tyE.here ?_)
  refine wpAny_bind (issub_self hC' ?_)
  refine wpAny_bind (wpAny_truthy_bool ?_)
  rw [if_pos rfl]
  refine wpAny_pure ?_
  unfold setFlight raiseNew
  refine wpAny_bind (wpAny_bind (wpAny_field (i := 1) (x := Value.none) ht rfl rfl ?_))
  rw [if_neg (by decide)]
  refine wpAny_pure (wpAny_bind (wpAny_handled ?_))
  rw [hh]
  first
    | exact wpAny_throw (h h' e hm)
    | exact wpAny_bind (wpAny_pure (wpAny_throw (h h' e hm)))

/-- raise C('..') -/
theorem raise_str {C : Addr} {x : Str} {t : Str} {np cpos pos tp : Pos} {k : Nat} {Q : Flow → Shared → Prop} (O : ExcAt s.heap C) (hh : A.handled = none)
    (hx : wpAny (model prog w) A (eval (.Name x np) env) (fun v s₁ => v = .ref C ∧ s₁ = s) E s)
    (h : ∀ s' h' e u, Kp [] s s' → Heap.MadeExcOf s'.heap h' e (.ref C) [.str t u] → E (.ref e) { s' with heap := h' }) :
    wpAny (model prog w) A (exec (.Raise (some (.Call (.Name x np) [.Constant (.str t) k tp] [] cpos)) none pos) env) Q E s := by
  obtain ⟨_, _, O⟩ := O
  obtain ⟨tl, N, nm, q, bs, hdct, sn, sub, ab, col, dd, k0, k1, k2, k3, k5, mN, hC, hN, hni, T⟩ := O.obj
  refine wpAny_Raise_call_subU (C := C) (nm := nm) (q := q) (N := N) (bs := bs) (bm := tl) (hdct := hdct) (sn := sn) (sub := sub) (ab := ab) (col := col) (dd := dd) (k0 := k0) (k1 := k1) (k2 := k2) (k3 := k3) (k5 := k5)
    PySem.F.excBase_Exception (by decide) PySem.F.excBase_Exception (mN := mN) (T.hasType (by decide)) hh rfl hni (wpAny_mono hx (fun v s₁ h₁ => ?_) fun _ _ e => e)
  obtain ⟨rfl, rfl⟩ := h₁
  refine ⟨rfl, ?_⟩
  refine evalArgs_plain (spliced_more (ev_str fun s' u k' => spliced_none ⟨rfl, by size_fits, k'.ext _ _ hC, hN.keeps k'.ext, T.keeps k'.ext, fun h' e hm => h s' h' e u k' hm⟩) rfl)
end
end Mine

namespace Mine

theorem ds_sub_nf (w : World) : subIn (KK w) (.ref 44) (.ref 364) = some false := by kernel_rfl
theorem nf_sub_nf (w : World) : subIn (KK w) (.ref 364) (.ref 364) = some true := by kernel_rfl
theorem ds_sub_ds (w : World) : subIn (KK w) (.ref 44) (.ref 44) = some true := by kernel_rfl

structure Raised (base : Heap) (outer : List Env) (C : Addr) (s s' : Shared) (e : Addr) : Prop where
  gens : s'.gens = s.gens
  drawn : s'.drawn = s.drawn
  os : s'.os = s.os
  fly : ∃ a0, Heap.FlyingW base outer e (.ref C) a0 s'.heap
  slots : s.heap.UpToSlots s'.heap
theorem Raised.pre {base : Heap} {outer : List Env} {C : Addr} {s₁ s₂ s₃ : Shared} {e : Addr} (k : Kp [] s₁ s₂) (r : Raised base outer C s₂ s₃ e) : Raised base outer C s₁ s₃ e :=
  ⟨r.gens.trans k.gens, r.drawn.trans k.drawn, r.os.trans k.os, r.fly, (Heap.UpToSlots.of_keeps k.ext).trans r.slots⟩

/-- s' stands where s stood, but for slots outside of base -/
structure Kb (base : Heap) (s s' : Shared) : Prop where
  gens : s'.gens = s.gens
  drawn : s'.drawn = s.drawn
  os : s'.os = s.os
  base : base.StaysIn s'.heap
  slots : s.heap.UpToSlots s'.heap
theorem Kp.kb {base : Heap} {s s' : Shared} (k : Kp [] s s') (b : base.StaysIn s.heap) : Kb base s s' := ⟨k.gens, k.drawn, k.os, fun a o e => k.ext _ _ (b a o e), .of_keeps k.ext⟩
theorem Kb.pre {base : Heap} {s₁ s₂ s₃ : Shared} (k : Kp [] s₁ s₂) (r : Kb base s₂ s₃) : Kb base s₁ s₃ := ⟨r.gens.trans k.gens, r.drawn.trans k.drawn, r.os.trans k.os, r.base, (Heap.UpToSlots.of_keeps k.ext).trans r.slots⟩
theorem Kb.post {base : Heap} {s₁ s₂ s₃ : Shared} (r : Kb base s₁ s₂) (k : Kp [] s₂ s₃) : Kb base s₁ s₃ := ⟨k.gens.trans r.gens, k.drawn.trans r.drawn, k.os.trans r.os, fun a o e => k.ext _ _ (r.base a o e), r.slots.trans (.of_keeps k.ext)⟩

section
variable {prog : Program} {w : World} {A : Around} {E : Value → Shared → Prop} {s : Shared} {env : Env}

theorem Below.ext {base : Heap} {outer : List Env} {h h' : Heap} (K : Below A base outer h) (k : Ext h h') : Below A base outer h' := ⟨K.stack, fun b o e => k _ _ (K.stays b o e), K.frames.of_keeps fun b o e _ => ⟨o, k _ _ e, rfl⟩⟩

/-- a def of the text, called: it may raise -/
theorem call_fE {f : Addr} {qual : Str} {st : Stmt} {cd : Value} {args : List Value} {binds : List (Str × Value)} {Q : Value → Shared → Prop} {n : Nat} {base : Heap} {outer : List Env} (fn : FnAt s.heap f qual st cd) (T : Top0 w s.heap) (r : Room A (n + 1)) (B : Below A base outer s.heap)
    (hbind : ∀ name doc pm ct, bindArgs (fnOf name qual (parsOfS st) (bodyOfS st) (scopeOfS st) .none .none doc pm none cd ct) ⟨args, []⟩ = pure binds)
    (hloc : ∀ x ∈ binds, (scopeOfS st).names.lookup x.1 = some .local)
    (h : ∀ A' s' L, Room A' n → Kp [] s s' → s.heap.get? L = none → s'.heap.Ns L (fun x => binds.reverse.lookup x) → Top0 w s'.heap → Below A' base (envOf qual (scopeOfS st) L f cd :: outer) s'.heap →
      wpAny (model prog w) A' (execs (bodyOfS st) (envOf qual (scopeOfS st) L f cd)) (fun fl s' => Q (match fl with | .ret v => v | _ => .none) s')
        (fun e s'' => wpAny (model prog w) A' (leaving (envOf qual (scopeOfS st) L f cd) e) (fun _ s₃ => E e s₃) (fun e' s₃ => E e' s₃) s'') s')
    (hcell : ∀ x ∈ (scopeOfS st).names, x.2 ≠ .cell := by decide)
    (hco : (scopeOfS st).isCoroutine = false := by rfl) (hgen : (scopeOfS st).isGenerator = false := by rfl) (hk : (scopeOfS st).kind = .function := by rfl) :
    wpAny (model prog w) A (call (.ref f) args) Q E s := by
  obtain ⟨⟨oc, od, sl, name, doc, pm, ct, ho⟩, hcd⟩ := fn
  refine wpAny_call (codeAny_call_def r.d ho rfl T.lim hcd rfl (BindsTo.of_eq (hbind name doc pm ct)) hcell hloc (fun h₁ hns k => ?_) hco hgen hk)
  have B' : Below (A.deeper (envOf qual (scopeOfS st) s.heap.objs.size f cd)) base (envOf qual (scopeOfS st) s.heap.objs.size f cd :: outer) h₁ := by
    refine ⟨Around.frames_deeper B.stack, fun b o e => k _ _ (B.stays b o e), .cons ?_ rfl hns ?_ (B.frames.of_keeps fun b o e _ => ⟨o, k _ _ e, rfl⟩)⟩
    · show (scopeOfS st).kind ≠ .module
      rw [hk]; decide
    · cases q : base.get? s.heap.objs.size with
      | none => rfl
      | some o => have := B.stays _ _ q; rw [fresh_size] at this; cases this
  exact h _ ⟨h₁, s.gens, s.drawn, _, s.os⟩ s.heap.objs.size (r.deeper _) (Kp.of k) fresh_size hns (T.keeps k) B'

theorem leave_made {M : Model} {base : Heap} {outer : List Env} {L e C : Addr} {h : Heap} {vs : List Value} {Q : Unit → Shared → Prop} {s₀ : Shared} (B : Below A base (env :: outer) h) (hf : env.frame = some L) (hx : Heap.MadeExcOf h s.heap e (.ref C) vs) (k : Kp [] s₀ { s with heap := h })
    (hq : ∀ s', Raised base outer C s₀ s' e → Q () s') : wpAny M A (leaving env (.ref e)) Q E s :=
  wpAny_leaves_madeW B.stack hf B.stays B.frames hx fun h' t fl _ _ sl => hq _ ⟨k.gens, k.drawn, k.os, ⟨_, fl⟩, ((Heap.UpToSlots.of_keeps k.ext).trans (.of_keeps hx.keeps)).trans sl⟩
theorem leave_on {M : Model} {base : Heap} {outer : List Env} {L e C : Addr} {Q : Unit → Shared → Prop} {s₀ : Shared} (hfr : A.frames = some (env :: outer)) (hf : env.frame = some L) (R : Raised base (env :: outer) C s₀ s e)
    (hq : ∀ s', Raised base outer C s₀ s' e → Q () s') : wpAny M A (leaving env (.ref e)) Q E s := by
  obtain ⟨a0, fl⟩ := R.fly
  exact wpAny_leaves_onW hfr hf fl fun h' fl' sl => hq _ ⟨R.gens, R.drawn, R.os, ⟨_, fl'⟩, R.slots.trans sl⟩

theorem Raised.kb {base : Heap} {outer : List Env} {C e : Addr} {s s' : Shared} (R : Raised base outer C s s' e) : Kb base s s' := let ⟨_, f⟩ := R.fly; ⟨R.gens, R.drawn, R.os, f.1, R.slots⟩

/-- the heads of a try: the frame is noted -/
theorem caught_note {base : Heap} {outer : List Env} {L e C : Addr} {hs : List ExceptHandler} {Q : Flow → Shared → Prop} {s₀ : Shared} (hfr : A.frames = some (env :: outer)) (hf : env.frame = some L) (R : Raised base (env :: outer) C s₀ s e)
    (h : ∀ s', Raised base (env :: outer) C s₀ s' e → wpAny (model prog w) A (handleBy (.ref e) env hs) Q E s') :
    wpAny (model prog w) A (noteFrame (.ref e) env) (fun _ s₂ => wpAny (model prog w) A (setFlight (.ref e) none) (fun _ s₃ => wpAny (model prog w) A (handleBy (.ref e) env hs) Q E s₃) E s₂) E s := by
  obtain ⟨a0, fl⟩ := R.fly
  refine wpAny_looks_onW hfr hf fl fun h₄ hheld sm₄ => ?_
  refine wpAny_landsW hheld fun h₅ fl₅ sm₅ => ?_
  exact h ⟨h₅, s.gens, s.drawn, s.toks, s.os⟩ ⟨R.gens, R.drawn, R.os, ⟨_, fl₅⟩, (R.slots.trans sm₄).trans sm₅⟩

theorem exc_matches {K : Frag} {M : Model} {h : Heap} {g : Array GenState} {d : Drawn} {t : Nat} {os : OsState} {e C C' : Addr} {oe : Obj} {b : Bool} {Q : Bool → Shared → Prop} (X : K.In h) (O' : ExcAt h C') (he : h.get? e = some oe) (hcls : oe.cls = .ref C) (sb : subIn K (.ref C) (.ref C') = some b)
    (hq : Q b ⟨h, g, d, t, os⟩) : wpAny M A (excMatches (.ref e) (.ref C')) Q E ⟨h, g, d, t, os⟩ := by
  obtain ⟨_, _, O'⟩ := O'
  obtain ⟨tl, N, nm, q, bs, hdct, sn, sub, ab, col, dd, k0, k1, k2, k3, k5, mN, hC, hN, hni, T⟩ := O'.obj
  have hbB : tl.contains (.type "BaseException") = true := T.hasType (by decide)
  have hcB : (Value.ref C' :: tl).contains (.type "BaseException") = true := by rw [List.contains_cons, hbB, Bool.or_true]
  have f := tc_notTuple
  have tyE : Looks M h (typeOf (.ref e)) (.ref C) := hcls ▸ (Looks.ld he).andThen .now
  unfold excMatches
  repeat (first | (with_reducible refine tyE.here ?_) | (with_reducible refine wpAny_loadPart_at he ?_; rw [hcls]) | with_reducible refine wpAny_loadPart_at hC ?_ | (with_reducible refine wpAny_isSubtype_exc hC ?_; rw [hcB]) | (with_reducible refine (looks_subIn X sb).here ?_) | wp_step)
  cases b
  · exact wpAny_pure (wpAny_pure (wpAny_pure hq))
  · exact wpAny_pure (wpAny_pure (wpAny_pure hq))

theorem gx {x : Str} {pos : Pos} {v : Value} {Q : Value → Shared → Prop} (T : Top0 w s.heap) (e : nsIn (KK w) mainGlobals x = some (some v)) (h : Q v s) (hk : env.scope.kind = .function := by rfl)
    (hx : env.kindOf x = some .globalImplicit := by rfl) (hg : env.globals = mainGlobals := by rfl) (hd : (x == ("__debug__" : Str)) = false := by decide) : wpAny (model prog w) A (eval (.Name x pos) env) Q E s := nm_g T e h hk hx hg hd

/-- except C': it is of another class -/
theorem caught_next {base : Heap} {outer : List Env} {e C C' : Addr} {x : Str} {np pos : Pos} {suite : List Stmt} {hs : List ExceptHandler} {Q : Flow → Shared → Prop} {s₀ : Shared} (TB : Top0 w base) (R : Raised base outer C s₀ s e)
    (ex : nsIn (KK w) mainGlobals x = some (some (.ref C'))) (q : ∀ h, Top0 w h → ExcAt h C') (sb : subIn (KK w) (.ref C) (.ref C') = some false)
    (h : wpAny (model prog w) A (handleBy (.ref e) env hs) Q E s) (hk : env.scope.kind = .function := by rfl)
    (hx : env.kindOf x = some .globalImplicit := by rfl) (hg : env.globals = mainGlobals := by rfl) (hd : (x == ("__debug__" : Str)) = false := by decide) :
    wpAny (model prog w) A (handleBy (.ref e) env (.ExceptHandler (some (.Name x np)) none suite pos :: hs)) Q E s := by
  obtain ⟨a0, fl⟩ := R.fly
  have T := TB.keeps fl.1
  obtain ⟨ob, hob, hc⟩ := fl.there
  refine wpAny_handleBy_cons (codeAny_handlers_test (nm_g T ex ?_ hk hx hg hd)) (by intro q; cases q)
  obtain ⟨hp, g, d, t, os⟩ := s
  exact exc_matches T.K (q _ T) hob hc sb h

/-- except C': it is of this class -/
theorem caught_this {base : Heap} {outer : List Env} {e C C' : Addr} {x : Str} {np pos : Pos} {b₀ : Stmt} {suite : List Stmt} {hs : List ExceptHandler} {Q : Flow → Shared → Prop} {s₀ : Shared} (TB : Top0 w base) (R : Raised base outer C s₀ s e)
    (ex : nsIn (KK w) mainGlobals x = some (some (.ref C'))) (q : ∀ h, Top0 w h → ExcAt h C') (sb : subIn (KK w) (.ref C) (.ref C') = some true)
    (h : ∀ s' E', Kb base s₀ s' → wpAny (model prog w) (A.mark (some (.ref e))) (execs (b₀ :: suite) env) Q E' s') (hk : env.scope.kind = .function := by rfl)
    (hx : env.kindOf x = some .globalImplicit := by rfl) (hg : env.globals = mainGlobals := by rfl) (hd : (x == ("__debug__" : Str)) = false := by decide) :
    wpAny (model prog w) A (handleBy (.ref e) env (.ExceptHandler (some (.Name x np)) none (b₀ :: suite) pos :: hs)) Q E s := by
  obtain ⟨a0, fl⟩ := R.fly
  have T := TB.keeps fl.1
  obtain ⟨ob, hob, hc⟩ := fl.there
  refine wpAny_handleBy_cons (codeAny_handlers_test (nm_g T ex ?_ hk hx hg hd)) (by intro q; cases q)
  obtain ⟨hp, g, d, t, os⟩ := s
  refine exc_matches T.K (q _ T) hob hc sb (codeAny_handlers_suite (lands_againW fl fun h' fl' sl => ?_))
  exact h _ _ ⟨R.gens, R.drawn, R.os, fl'.1, R.slots.trans sl⟩
end
end Mine

namespace Mine

abbrev Row := Int × (Str ⊕ Int)
def IR (v : Value) (i : Int) : Prop := ∃ t, v = .int i t
def VR (v : Value) : Str ⊕ Int → Prop
  | .inl s => ∃ t, v = .str s t
  | .inr i => ∃ t, v = .int i t
def valD : Str ⊕ Int → PyData
  | .inl s => .str s
  | .inr i => .int i
def rowD (r : Row) : PyData := .tuple [.int r.1, valD r.2]
def okR (r : Row) : Prop := (valD r.2).canLay0 = true

theorem VR.hand {v : Value} {x : Str ⊕ Int} (e : VR v x) : handedIn v = true := by
  cases x <;> (obtain ⟨t, rfl⟩ := e; rfl)
theorem IR.hand {v : Value} {x : Int} (e : IR v x) : handedIn v = true := by obtain ⟨t, rfl⟩ := e; rfl
theorem VR.reads {h : Heap} {v : Value} {x : Str ⊕ Int} (e : VR v x) : Reads h v (valD x) [] := by
  cases x <;> (obtain ⟨t, rfl⟩ := e; constructor)
theorem IR.reads {h : Heap} {v : Value} {x : Int} (e : IR v x) : Reads h v (.int x) [] := by obtain ⟨t, rfl⟩ := e; constructor

def TupR (h : Heap) (v : Value) (r : Row) : Prop := okR r ∧ ∃ a c x o n, v = .ref a ∧ IR c r.1 ∧ VR x r.2 ∧ h.get? a = some o ∧ o.cls = .type "tuple" ∧ o.data = .seq #[c, x] n
def DxR (h : Heap) (v : Value) (r : Row) : Prop := okR r ∧ ∃ a dx c x, v = .ref a ∧ IR c r.1 ∧ VR x r.2 ∧ DxAt h a dx c x
def RowR (h : Heap) (v : Value) (r : Row) : Prop := TupR h v r ∨ DxR h v r
theorem TupR.keeps {h h' : Heap} {v : Value} {r : Row} (t : TupR h v r) (k : Ext h h') : TupR h' v r := let ⟨z, a, c, x, o, n, e1, e2, e3, e4, e⟩ := t; ⟨z, a, c, x, o, n, e1, e2, e3, k _ _ e4, e⟩
theorem DxR.keeps {h h' : Heap} {v : Value} {r : Row} (t : DxR h v r) (k : Ext h h') : DxR h' v r := let ⟨z, a, c, x, o, e1, e2, e3, e4⟩ := t; ⟨z, a, c, x, o, e1, e2, e3, e4.keeps k⟩
theorem RowR.keeps {h h' : Heap} {v : Value} {r : Row} (t : RowR h v r) (k : Ext h h') : RowR h' v r := t.imp (·.keeps k) (·.keeps k)
theorem TupR.ok {h : Heap} {v : Value} {r : Row} (t : TupR h v r) : okR r := t.1
theorem RowR.ok {h : Heap} {v : Value} {r : Row} (t : RowR h v r) : okR r := t.elim (·.1) (·.1)

theorem TupR.reads {h : Heap} {v : Value} {r : Row} (t : TupR h v r) : Reads h v (rowD r) [] := by
  obtain ⟨_, a, c, x, o, n, rfl, e2, e3, e4, e5, e6⟩ := t
  exact reads_tuple_at e4 e5 e6 (.cons (as := []) e2.reads (.cons (as := []) e3.reads .nil))

def RowsR (h : Heap) (vs : List Value) (rs : List Row) : Prop := Paired (TupR h) vs rs
def TagsR (h : Heap) (vs : List Value) (rs : List Row) : Prop := Paired (RowR h) vs rs

section
variable {α β : Type} {F G : α → β → Prop}
theorem Paired.imp (k : ∀ a b, F a b → G a b) : ∀ {l₁ : List α} {l₂ : List β}, Paired F l₁ l₂ → Paired G l₁ l₂
  | _, _, .nil => .nil
  | _, _, .cons h t => .cons (k _ _ h) (Paired.imp k t)
theorem Paired.app : ∀ {l₁ : List α} {l₂ : List β} {m₁ : List α} {m₂ : List β}, Paired F l₁ l₂ → Paired F m₁ m₂ → Paired F (l₁ ++ m₁) (l₂ ++ m₂)
  | _, _, _, _, .nil, k => k
  | _, _, _, _, .cons h t, k => .cons h (Paired.app t k)
theorem Paired.take : ∀ {l₁ : List α} {l₂ : List β} (n : Nat), Paired F l₁ l₂ → Paired F (l₁.take n) (l₂.take n)
  | _, _, 0, _ => by simp; exact .nil
  | _, _, _ + 1, .nil => .nil
  | _, _, n + 1, .cons h t => .cons h (Paired.take n t)
theorem Paired.drop : ∀ {l₁ : List α} {l₂ : List β} (n : Nat), Paired F l₁ l₂ → Paired F (l₁.drop n) (l₂.drop n)
  | _, _, 0, k => by simpa using k
  | _, _, _ + 1, .nil => .nil
  | _, _, n + 1, .cons _ t => by simpa using Paired.drop n t
theorem Paired.get : ∀ {l₁ : List α} {l₂ : List β} {i : Nat} {b : β}, Paired F l₁ l₂ → l₂[i]? = some b → ∃ a, l₁[i]? = some a ∧ F a b
  | _, _, _, _, .nil, e => by simp at e
  | _, _, 0, _, .cons h _, e => by simp at e; subst e; exact ⟨_, by simp, h⟩
  | _, _, i + 1, _, .cons _ t, e => by simp at e; obtain ⟨a, h1, h2⟩ := Paired.get t e; exact ⟨a, by simpa using h1, h2⟩
theorem Paired.get' {l₁ : List α} {l₂ : List β} {i : Nat} {a : α} (p : Paired F l₁ l₂) (e : l₁[i]? = some a) : ∃ b, l₂[i]? = some b ∧ F a b := by
  have hl := p.length
  have hi := (List.getElem?_eq_some_iff.mp e).1
  obtain ⟨a', h1, h2⟩ := Paired.get (i := i) (b := l₂[i]'(by omega)) p (by simp)
  rw [e] at h1; cases h1
  exact ⟨_, by simp, h2⟩
end

theorem RowsR.keeps {h h' : Heap} {vs : List Value} {rs : List Row} (t : RowsR h vs rs) (k : Ext h h') : RowsR h' vs rs := Paired.imp (fun _ _ x => x.keeps k) t
theorem TagsR.keeps {h h' : Heap} {vs : List Value} {rs : List Row} (t : TagsR h vs rs) (k : Ext h h') : TagsR h' vs rs := Paired.imp (fun _ _ x => x.keeps k) t
theorem RowsR.tags {h : Heap} {vs : List Value} {rs : List Row} (t : RowsR h vs rs) : TagsR h vs rs := Paired.imp (fun _ _ x => .inl x) t

theorem RowsR.reads {h : Heap} : ∀ {vs : List Value} {rs : List Row}, RowsR h vs rs → ReadsAll h vs (rs.map rowD) []
  | _, _, .nil => .nil
  | _, _, .cons x t => .cons (as := []) (bs := []) x.reads (RowsR.reads t)
def rowsD (rs : List Row) : PyData := .list (rs.map rowD)
theorem RowsR.oks {h : Heap} : ∀ {vs : List Value} {rs : List Row}, RowsR h vs rs → ∀ r ∈ rs, okR r
  | _, _, .nil, r, e => by simp at e
  | _, _, .cons x t, r, e => by
    rcases List.mem_cons.mp e with rfl | e
    · exact x.ok
    · exact RowsR.oks t r e

theorem row_lay {r : Row} (o : okR r) : (rowD r).canLay0 = true := by unfold okR at o; simp [rowD, PyData.canLay0, PyData.canLayAll0, o]
theorem valD_depth (x : Str ⊕ Int) : (valD x).depth = 0 := by cases x <;> simp [valD, PyData.depth]
theorem row_depth (r : Row) : (rowD r).depth = 1 := by simp [rowD, PyData.depth, PyData.depthAll, valD_depth]
theorem row_shaped {r : Row} (o : okR r) : SeqAt.shaped (rowD r) = true := by simp [SeqAt.shaped, row_lay o, row_depth]
theorem rows_lay : ∀ {rs : List Row}, (∀ r ∈ rs, okR r) → PyData.canLayAll0 (rs.map rowD) = true
  | [], _ => rfl
  | r :: rs, o => by simp only [List.map_cons, PyData.canLayAll0, row_lay (o r (by simp)), rows_lay (rs := rs) fun r h => o r (by simp [h]), Bool.and_self]
theorem rows_depth : ∀ rs : List Row, PyData.depthAll (rs.map rowD) ≤ 1
  | [] => by simp [PyData.depthAll]
  | r :: rs => by have := rows_depth rs; simp only [List.map_cons, PyData.depthAll, row_depth]; omega
theorem rows_shaped {rs : List Row} (o : ∀ r ∈ rs, okR r) : SeqAt.shaped (rowsD rs) = true := by
  have := rows_depth rs
  simp only [SeqAt.shaped, rowsD, PyData.canLay0, PyData.depth, rows_lay o, Bool.true_and, decide_eq_true_eq]
  omega

theorem beqd {α : Type} [BEq α] [LawfulBEq α] [DecidableEq α] (a b : α) : (a == b) = decide (a = b) := by
  by_cases h : a = b <;> simp [h]
theorem valD_eqv (x y : Str ⊕ Int) : PyData.eqv (valD x) (valD y) = decide (x = y) := by
  cases x <;> cases y <;> simp [valD, PyData.eqv, beqd]
theorem row_eqv (r r' : Row) : PyData.eqv (rowD r) (rowD r') = decide (r = r') := by
  obtain ⟨a, x⟩ := r
  obtain ⟨b, y⟩ := r'
  simp only [rowD, PyData.eqv, PyData.eqvAll, valD_eqv, Bool.and_true]
  by_cases h : a = b <;> by_cases h' : x = y <;> simp [h, h']
theorem rows_eqvAll : ∀ rs rs' : List Row, PyData.eqvAll (rs.map rowD) (rs'.map rowD) = decide (rs = rs')
  | [], [] => by simp [PyData.eqvAll]
  | [], _ :: _ => by simp [PyData.eqvAll]
  | _ :: _, [] => by simp [PyData.eqvAll]
  | r :: rs, r' :: rs' => by
    simp only [List.map_cons, PyData.eqvAll, row_eqv, rows_eqvAll rs rs']
    by_cases h : r = r' <;> by_cases h' : rs = rs' <;> simp [h, h']
theorem rows_eqv (rs rs' : List Row) : PyData.eqv (rowsD rs) (rowsD rs') = decide (rs = rs') := by simp only [rowsD, PyData.eqv, rows_eqvAll]

section
variable {prog : Program} {w : World} {A : Around} {E : Value → Shared → Prop} {s : Shared} {env : Env}

/-- a tag held against a tuple -/
theorem rowEq {n : Nat} {v b : Value} {r r' : Row} {Q : Value → Shared → Prop} (T : Top0 w s.heap) (rm : Room A (n + 4)) (x : RowR s.heap v r) (y : TupR s.heap b r')
    (h : ∀ s', Kp [] s s' → Q (.bool (decide (r = r'))) s') : wpAny (model prog w) A (compareOp .Eq v b) Q E s := by
  rcases x with x | x
  · exact eq_t rm x.reads y.reads (row_shaped x.ok) (row_shaped y.ok) (by rw [row_eqv]; exact h _ .refl)
  · have y' := y.reads
    obtain ⟨o1, a, dx, c, u, rfl, e2, e3, e4⟩ := x
    obtain ⟨o2, b', c', u', ob, nb, rfl, f2, f3, f4, f5, f6⟩ := y
    refine dx_eq T rm e4 e2.hand e3.hand e2.reads e3.reads f4 f5 y' (dc := .int r.1) (dv := valD r.2) (row_shaped o1) (row_shaped o2) fun s' k => ?_
    have := row_eqv r r'
    unfold rowD at this ⊢
    rw [this]
    exact h s' k

/-- v[0], v[1] of a tag -/
theorem rowAt {n : Nat} {v : Value} {r : Row} {k : Int} {u : Tok} {value slice : Expr} {Q : Value → Shared → Prop} (T : Top0 w s.heap) (rm : Room A (n + 4)) (x : RowR s.heap v r)
    (hk : k = 0 ∨ k = 1) (h : ∀ y s', Kp [] s s' → (k = 0 → IR y r.1) → (k = 1 → VR y r.2) → Q y s')
    (hs : ∀ a, subscripted slice false (.ref a) (.int k u) = operate [.ref a, .int k u] (getItem (.ref a) (.int k u)) := by intro _; with_unfolding_all rfl)
    (hsl : ∀ a, subscripted slice true (.ref a) (.int k u) = runValue (.builtin "lifetime.subscript" ⟨[.ref a, .int k u], []⟩) := by intro _; with_unfolding_all rfl) :
    wpAny (model prog w) A (subscriptTail value slice v (.int k u)) Q E s := by
  rcases x with ⟨_, a, c, y, o, nn, rfl, e2, e3, e4, e5, e6⟩ | ⟨_, a, dx, c, y, rfl, e2, e3, e4⟩
  · have ht : IsTup s.heap a [c, y].toArray := ⟨o, e4, e5, nn, e6⟩
    rcases hk with rfl | rfl
    · exact tup_get ht (by decide) (by decide) rfl (h _ _ .refl (fun _ => e2) (by intro q; cases q)) (hs a)
    · exact tup_get ht (by decide) (by decide) rfl (h _ _ .refl (by intro q; cases q) (fun _ => e3)) (hs a)
  · rcases hk with rfl | rfl
    · exact dx_sub T rm e4 e2.hand e3.hand (by decide) (by decide) rfl (fun s' k => h _ _ k (fun _ => e2) (by intro q; cases q)) (hsl a)
    · exact dx_sub T rm e4 e2.hand e3.hand (by decide) (by decide) rfl (fun s' k => h _ _ k (by intro q; cases q) (fun _ => e3)) (hsl a)
end
end Mine

namespace Mine

def SeqV (h : Heap) (a : Addr) (items : Array Value) : Prop := (∃ d n, TagsAt h a d items n) ∨ ∃ o n, h.get? a = some o ∧ o.cls = .type "list" ∧ o.data = .seq items n
theorem SeqV.keeps {h h' : Heap} {a : Addr} {items : Array Value} (x : SeqV h a items) (k : Ext h h') : SeqV h' a items :=
  x.imp (fun ⟨d, n, t⟩ => ⟨d, n, t.keeps k⟩) fun ⟨o, n, e, r⟩ => ⟨o, n, k _ _ e, r⟩
theorem SeqV.at {h : Heap} {a : Addr} {items : Array Value} (x : SeqV h a items) : SeqAt h a items := x.elim (fun ⟨d, n, t⟩ => ⟨_, n, t.obj, rfl⟩) fun ⟨o, n, e, _, r⟩ => ⟨o, n, e, r⟩

section
variable {prog : Program} {w : World} {A : Around} {E : Value → Shared → Prop} {s : Shared} {env : Env}

theorem seq_iter {a : Addr} {items : Array Value} {Q : Value → Shared → Prop} (T : Top0 w s.heap) (x : SeqV s.heap a items)
    (h : ∀ s' I, Kp [] s s' → s.heap.get? I = none → s'.heap.IsListIter I a 0 → SeqAt s'.heap a items → Q (.ref I) s') : wpAny (model prog w) A (pyIter (.ref a)) Q E s := by
  have k : ∀ b o, s.heap.get? b = some o → (s.heap.push { cls := .type "list_iterator", data := .fields #[.ref a, .int 0 0] }).get? b = some o := fun b o e => Heap.get?_push_of_some _ e
  have I0 : (s.heap.push { cls := .type "list_iterator", data := .fields #[.ref a, .int 0 0] }).IsListIter s.heap.objs.size a 0 := ⟨_, Heap.get?_push_size _ rfl, rfl, rfl⟩
  have fin := h { s with heap := s.heap.push { cls := .type "list_iterator", data := .fields #[.ref a, .int 0 0] } } s.heap.objs.size .push fresh_size I0 (x.at.at fun o e => k _ _ e)
  rcases x with ⟨d, n, t⟩ | ⟨o, n, e, hc, hd⟩
  · exact tg_pyIter T.K t fin
  · exact wpAny_pyIter_list ⟨o, e, hc, n, hd⟩ fin

theorem plain_call {n : Nat} {a : Addr} {rs : List Row} {items : Array Value} {Q : Value → Shared → Prop} (T : Top0 w s.heap) (r : Room A (n + 8)) (x : SeqV s.heap a items) (t : TagsR s.heap items.toList rs) (hsz : items.size ≤ sizeLine)
    (h : ∀ s' D ys c, Kp [] s s' → s.heap.get? D = none → s'.heap.get? D = some (lstO (List.toArray ys) c) → RowsR s'.heap ys rs → Q (.ref D) s') : wpAny (model prog w) A (call (.ref 402) [.ref a]) Q E s := by
  refine call_f (binds := [("tags", .ref a)]) (fn_plain T.K) T r (fun _ _ _ _ => rfl) (locs rfl) (fun A' s₁ L r₁ k₁ hL hns T₁ => ?_)
  refine wpAny_execs_cons (wpAny_Return_some (comp_eval (cl := []) rfl (by decide) rfl (by decide) rfl ?_))
  refine nm_l hns rfl (seq_iter T₁ (x.keeps k₁.ext) fun s₂ I k₂ hI it at₂ => ?_)
  have hrl : items.size = rs.length := by simpa using t.length
  have haI : a ≠ I := fun q => by obtain ⟨o, m, e, _⟩ := (x.keeps k₁.ext).at; rw [q, hI] at e; cases e
  refine ⟨I, [I, a], items.size, _, _, s₁.heap, fun i ys B => RowsR B ys (rs.take i), rfl, walksSeq r₁.hd I a haI items, hsz, ⟨it, at₂⟩, ?_, fun i h st => ?_, k₂.ext, hI, .nil, ?_, ?_⟩
  · intro b hb
    rcases List.mem_cons.mp hb with rfl | hb
    · obtain ⟨o, e, _⟩ := it; exact Heap.lt_size e
    · rcases List.mem_cons.mp hb with rfl | hb
      · obtain ⟨o, m, e, _⟩ := at₂; exact Heap.lt_size e
      · cases hb
  · obtain ⟨o, e, _⟩ := st.1; exact ⟨o, e⟩
  · intro C D hC hD i v s₃ m₁ ys B hi hP hB hBs hoff hDs hIs hC₃ hx hJ
    obtain ⟨row, hrow, hv⟩ := Paired.get' (t.keeps k₁.ext) (show items.toList[i]? = some v by simpa using hP)
    have hBB : Ext s₁.heap s₃.heap := ext_tr hB hBs
    have T₃ := T₁.keeps hBB
    refine wpAny_pure ⟨.refl, ?_⟩
    rw [if_pos rfl]
    refine ev_tup2 (Subscript_ (nm_l hC₃ hx (ev_int fun s₄ t₄ k₄ => rowAt (k₄.top T₃) r₁ ((hv.keeps hBB).keeps k₄.ext) (.inl rfl) fun c s₅ k₅ hc _ => ?_)))
    have k₃₅ := k₄.then k₅
    refine Subscript_ (nm_l (k₃₅.ns0 hC₃) hx (ev_int fun s₆ t₆ k₆ => rowAt ((k₃₅.then k₆).top T₃) r₁ ((hv.keeps hBB).keeps (k₃₅.then k₆).ext) (.inr rfl) fun y s₇ k₇ _ hy => ?_))
    intro s₈ b k₈ hb hb8
    refine ⟨((k₃₅.then k₆).then k₇).then k₈, fun B' hBB' hbut => ?_⟩
    have k₃₇ := (k₃₅.then k₆).then k₇
    have nb : ∀ z, (∃ o, s₃.heap.get? z = some o) → b ≠ z := fun z ⟨o, e⟩ q => by have := k₃₇.ext _ _ e; rw [← q, hb] at this; cases this
    obtain ⟨oC, _, _, eC, _⟩ := hC₃
    have tb : B'.get? b = some (tupO [c, y]) := hbut _ _ (nb _ ⟨_, eC⟩) (nb _ hDs) (nb _ hIs) hb8
    have e : rs.take (i + 1) = rs.take i ++ [row] := by rw [List.take_succ, hrow]; rfl
    show RowsR B' _ _
    rw [e]
    exact Paired.snoc (RowsR.keeps hJ hBB') ⟨hv.ok, b, c, y, _, _, rfl, hc rfl, hy rfl, tb, rfl, rfl⟩
  · intro s' D c ys B k hD hD' hB hBs _ hJ
    have k' : Kp [] s₁ s' := (k₂.trans (k.mono (l' := [I]) (by simp))).drop (by simp; exact hI)
    refine h s' D ys c (k₁.then k') ?_ hD' ?_
    · cases q : s.heap.get? D with
      | none => rfl
      | some o => have := (k₁.then k₂).ext _ _ q; rw [hD] at this; cases this
    · have : rs.take items.size = rs := by rw [hrl]; simp
      rw [this] at hJ
      exact RowsR.keeps hJ fun b o e => hBs b o (by simp) e
end
end Mine

namespace Mine

theorem k_k402 (w : World) : keepIn (KK w) (.ref 402) = true := by kernel_rfl
theorem k_k407 (w : World) : keepIn (KK w) (.ref 407) = true := by kernel_rfl
theorem k_k414 (w : World) : keepIn (KK w) (.ref 414) = true := by kernel_rfl
theorem k_k421 (w : World) : keepIn (KK w) (.ref 421) = true := by kernel_rfl
theorem k_k428 (w : World) : keepIn (KK w) (.ref 428) = true := by kernel_rfl
theorem k_k396 (w : World) : keepIn (KK w) (.ref 396) = true := by kernel_rfl
theorem k_k340 (w : World) : keepIn (KK w) (.ref 340) = true := by kernel_rfl
theorem k_k347 (w : World) : keepIn (KK w) (.ref 347) = true := by kernel_rfl
theorem k_k354 (w : World) : keepIn (KK w) (.ref 354) = true := by kernel_rfl
theorem k_k374 (w : World) : keepIn (KK w) (.ref 374) = true := by kernel_rfl
theorem k_k327 (w : World) : keepIn (KK w) (.ref 327) = true := by kernel_rfl
theorem k_k149 (w : World) : keepIn (KK w) (.ref 149) = true := by kernel_rfl

def rowIn (K : Frag) (a : Addr) : Option Row := match K.lookup a with
  | some ⟨.type "tuple", _, .seq ⟨[.int i _, .str s _]⟩ _, _⟩ => some (i, .inl s)
  | some ⟨.type "tuple", _, .seq ⟨[.int i _, .int j _]⟩ _, _⟩ => some (i, .inr j)
  | _ => none
theorem row_of {K : Frag} {h : Heap} {a : Addr} {r : Row} (X : K.In h) (e : rowIn K a = some r) (o : okR r) : TupR h (.ref a) r := by
  unfold rowIn at e
  split at e
  · rename_i q
    cases e
    exact ⟨o, a, _, _, _, _, rfl, ⟨_, rfl⟩, ⟨_, rfl⟩, X _ _ q, rfl, rfl⟩
  · rename_i q
    cases e
    exact ⟨o, a, _, _, _, _, rfl, ⟨_, rfl⟩, ⟨_, rfl⟩, X _ _ q, rfl, rfl⟩
  · cases e

/-- what was new stays apart: s₁ was new at l -/
theorem Kp.loc {s s₁ s₂ : Shared} {l : List Addr} (k : Kp [] s s₁) (k' : Kp l s₁ s₂) (h : ∀ b ∈ l, s.heap.get? b = none) : Kp [] s s₂ := (k.trans k').drop (by simpa using h)
theorem Kp.fresh {s s' : Shared} {b : Addr} (k : Kp [] s s') (h : s'.heap.get? b = none) : s.heap.get? b = none := by
  cases q : s.heap.get? b with
  | none => rfl
  | some o => have := k.ext _ _ q; rw [h] at this; cases this
theorem ext_fresh {h h' : Heap} {b : Addr} (k : Ext h h') (e : h'.get? b = none) : h.get? b = none := by
  cases q : h.get? b with
  | none => rfl
  | some o => have := k _ _ q; rw [e] at this; cases this
theorem Ns.ne {h : Heap} {L b : Addr} {m : Str → Option Value} (n : h.Ns L m) (e : h.get? b = none) : b ≠ L := fun q => by obtain ⟨o, _, _, ho, _⟩ := n; rw [← q, e] at ho; cases ho

section
variable {prog : Program} {w : World} {A : Around} {E : Value → Shared → Prop} {s : Shared} {env : Env}

/-- x = e -/
theorem asg {x : Str} {e : Expr} {px pos : Pos} {Q : Flow → Shared → Prop}
    (h : wpAny (model prog w) A (eval e env) (fun v s₁ => ∃ m, s₁.heap.Ns env.locals m ∧ ∀ s₂, Kp [env.locals] s₁ s₂ → s₂.heap.Ns env.locals (fun z => if z = x then some v else m z) → Q .next s₂) E s)
    (hs : swapsWith e (some (.Name x px)) pos.line env = pure false := by rfl) (hk : env.scope.kind = .function := by rfl) (hl : env.kindOf x = some .local := by rfl) :
    wpAny (model prog w) A (exec (.Assign [.Name x px] e pos) env) Q E s := by
  refine wpAny_Assign_Name (wpAny_mono h (fun v s₁ h₁ => ?_) fun _ _ e => e) hs
  obtain ⟨m, hn, hq⟩ := h₁
  exact st_l hn (fun h' tk n' sb => hq _ (.ofBut fun b o hb e => sb.extBut b o (by simpa using hb) e) n') hk hl

theorem trueStr {x : Str} {t : Tok} {Q : Bool → Shared → Prop} (hx : (x.length : Int) < 2 ^ 63) (h : ∀ s', Kp [] s s' → Q (x.length != 0) s') : wpAny (model prog w) A (truthy (.str x t)) Q E s := by
  refine P.truthy_str (by omega) ?_
  have e : ((x.length : Int) != 0) = (x.length != 0) := by simp [bne, beqd]
  rw [e]
  exact h _ .tok

/-- t.append(e), t a Tags -/
theorem mappend {o : Expr} {e : Expr} {apos pos : Pos} {pl : Sem Bool} {Q : Value → Shared → Prop}
    (h : wpAny (model prog w) A (eval o env) (fun ov s₁ => ∃ a d items n, ov = .ref a ∧ (KK w).In s₁.heap ∧ TagsAt s₁.heap a d items n ∧ items.size ≤ sizeLine ∧ wpAny (model prog w) A (eval e env) (fun v s₂ => (KK w).In s₂.heap ∧ TagsAt s₂.heap a d items n ∧
      ∀ s₃ n', Kp [a] s₂ s₃ → TagsAt s₃.heap a d (items.push v) n' → Q .none s₃) E s₁) E s)
    (he : eval (.Call (.Attribute o "append" apos) [e] [] pos) env = (do
      let ov ← eval o env
      standAt apos.atName
      let (f, first) ← holding [ov] (getMethod ov "append" pl)
      callWith pos f first (backTo pos (starEach [e] env)) []) := by rfl)
    (hst : starEach [e] env = (false, eval e env) :: starEach [] env := by rfl) :
    wpAny (model prog w) A (eval (.Call (.Attribute o "append" apos) [e] [] pos) env) Q E s := by
  refine MethodCall_ (wpAny_mono h (fun ov s₁ h₁ => ?_) fun _ _ e => e) he
  obtain ⟨a, d, items, n, rfl, X, t, hsz, h₁⟩ := h₁
  refine tg_getMethod X t (k_append w) md_append ?_
  refine callWith_method1 (spliced_more (wpAny_mono h₁ (fun v s₂ h₂ => spliced_none ?_) fun _ _ e => e) hst) hst rfl
  obtain ⟨X₂, t₂, hq⟩ := h₂
  refine tg_append X₂ t₂ hsz ?_
  obtain ⟨n', t'⟩ := t₂.upd (·.push v)
  exact hq _ n' (.ofBut fun b o hb e => (Heap.get?_update_other _ _ (by simp at hb; exact Ne.symm hb)).trans e) t'
/-- t.extend(e), t a Tags, e a list -/
theorem mextend {o : Expr} {e : Expr} {apos pos : Pos} {pl : Sem Bool} {Q : Value → Shared → Prop}
    (h : wpAny (model prog w) A (eval o env) (fun ov s₁ => ∃ a d items n, ov = .ref a ∧ (KK w).In s₁.heap ∧ TagsAt s₁.heap a d items n ∧ wpAny (model prog w) A (eval e env) (fun v s₂ => ∃ b ob ys m, v = .ref b ∧ s₂.heap.get? b = some ob ∧ ob.cls = .type "list" ∧ ob.data = .seq ys m ∧ items.size + ys.size ≤ sizeLine ∧ (KK w).In s₂.heap ∧ TagsAt s₂.heap a d items n ∧
      ∀ s₃ n', Kp [a] s₂ s₃ → TagsAt s₃.heap a d (items ++ ys) n' → Q .none s₃) E s₁) E s)
    (he : eval (.Call (.Attribute o "extend" apos) [e] [] pos) env = (do
      let ov ← eval o env
      standAt apos.atName
      let (f, first) ← holding [ov] (getMethod ov "extend" pl)
      callWith pos f first (backTo pos (starEach [e] env)) []) := by rfl)
    (hst : starEach [e] env = (false, eval e env) :: starEach [] env := by rfl) :
    wpAny (model prog w) A (eval (.Call (.Attribute o "extend" apos) [e] [] pos) env) Q E s := by
  refine MethodCall_ (wpAny_mono h (fun ov s₁ h₁ => ?_) fun _ _ e => e) he
  obtain ⟨a, d, items, n, rfl, X, t, h₁⟩ := h₁
  refine tg_getMethod X t (k_extend w) md_extend ?_
  refine callWith_method1 (spliced_more (wpAny_mono h₁ (fun v s₂ h₂ => spliced_none ?_) fun _ _ e => e) hst) hst rfl
  obtain ⟨b, ob, ys, m, rfl, hob, hcb, hdb, hsz, X₂, t₂, hq⟩ := h₂
  refine tg_extend X₂ t₂ hob hcb hdb hsz ?_
  obtain ⟨n', t'⟩ := t₂.upd (· ++ ys)
  exact hq _ n' (.ofBut fun b o hb e => (Heap.get?_update_other _ _ (by simp at hb; exact Ne.symm hb)).trans e) t'

theorem tup332 {h : Heap} (X : (KK w).In h) : TupR h (.ref 332) (1002, .inl "{") := row_of X (by kernel_rfl) (by unfold okR; decide +kernel)
theorem tup333 {h : Heap} (X : (KK w).In h) : TupR h (.ref 333) (1002, .inl "}") := row_of X (by kernel_rfl) (by unfold okR; decide +kernel)

/-- _law_words() -/
theorem words_call {n : Nat} {Q : Value → Shared → Prop} (T : Top0 w s.heap) (r : Room A (n + 2))
    (h : ∀ s' D t₁ t₂ t₃ t₄, Kp [] s s' → s'.heap.get? D = some (lstO #[.str "n" t₁, .str "m" t₂, .str "" t₃, .str "nn" t₄] 0) → Q (.ref D) s') : wpAny (model prog w) A (call (.ref 396) []) Q E s := by
  refine call_f (binds := []) (fn_words T.K) T r (fun _ _ _ _ => rfl) (by intro x hx; cases hx) (fun A' s₁ L r₁ k₁ hL hns T₁ => ?_)
  refine wpAny_execs_cons (wpAny_Return_some (List_ ?_))
  refine spliced_more (ev_str fun s₂ t₁ k₂ => spliced_more (ev_str fun s₃ t₂ k₃ => spliced_more (ev_str fun s₄ t₃ k₄ => spliced_more (ev_str fun s₅ t₄ k₅ => spliced_none ?_))))
  refine wpAny_newObj_type ?_
  exact h _ _ _ _ _ _ ((((k₁.then k₂).then k₃).then k₄).then (k₅.then .push)) (Heap.get?_push_size _ rfl)
end
end Mine

namespace Mine

def listed (name : Str) (inner : List Row) : List Row := (if name.length != 0 then [(1000, .inl name)] else []) ++ [(1002, .inl "{")] ++ inner ++ [(1002, .inl "}")]

section
variable {prog : Program} {w : World} {A : Around} {E : Value → Shared → Prop} {s : Shared} {env : Env}

theorem ni {a b : Addr} (h : a ≠ b) : a ∉ [b] := by simpa using h
theorem Kp.loc1 {s s₁ s₂ : Shared} {b : Addr} (k : Kp [] s s₁) (k' : Kp [b] s₁ s₂) (h : s.heap.get? b = none) : Kp [] s s₂ := k.loc k' (by simpa using h)

theorem TagsAt.but {h h' : Heap} {a d : Addr} {items : Array Value} {n : Nat} {l : List Addr} (t : TagsAt h a d items n) (k : ∀ b o, b ∉ l → h.get? b = some o → h'.get? b = some o) (ha : a ∉ l) (hd : d ∉ l) : TagsAt h' a d items n := ⟨k _ _ ha t.obj, k _ _ hd t.dic⟩

theorem xdata_call {n : Nat} {nm : Str} {t : Tok} {b : Addr} {ys : List Value} {inner : List Row} {c : Nat} {Q : Value → Shared → Prop} (T : Top0 w s.heap) (r : Room A (n + 3)) (hb : s.heap.get? b = some (lstO (List.toArray ys) c)) (hr : RowsR s.heap ys inner) (hsz : ys.length + 3 ≤ sizeLine) (ho : okR (1000, .inl nm)) (hl : nm.length < 100)
    (h : ∀ s' a d items m, Kp [] s s' → s.heap.get? a = none → s.heap.get? d = none → TagsAt s'.heap a d items m → RowsR s'.heap items.toList (listed nm inner) → Q (.ref a) s') : wpAny (model prog w) A (call (.ref 340) [.str nm t, .ref b]) Q E s := by
  refine call_f (binds := [("name", .str nm t), ("xdata_tags", .ref b)]) (fn_xdata T.K) T r (fun _ _ _ _ => rfl) (locs rfl) (fun A' s₁ L r₁ k₁ hL hns T₁ => ?_)
  -- tags = Tags()
  refine wpAny_execs_cons (asg (Call_Name rfl (nm_g T₁ (g_tags w) (callWith_K0 T₁.K (k_k327 w) (tags_call0 T₁.K fun h₂ a d m k₂ fa fd t₂ => ?_)))))
  have k₂' : Kp [] s₁ { s₁ with heap := h₂ } := .of k₂
  have t₂ : TagsAt ({ s₁ with heap := h₂ } : Shared).heap a d #[] m := t₂
  generalize ({ s₁ with heap := h₂ } : Shared) = s₂ at k₂' t₂ ⊢
  refine ⟨_, k₂'.ns0 hns, fun s₃ k₃ hns₃ => ?_⟩
  have fLa : a ≠ L := Ns.ne hns fa
  have fLd : d ≠ L := Ns.ne hns fd
  have ka : s.heap.get? a = none := k₁.fresh fa
  have k03 : Kp [] s s₃ := (k₁.then k₂').loc1 k₃ hL
  have t₃ : TagsAt s₃.heap a d #[] m := t₂.but k₃.keep (ni fLa) (ni fLd)
  -- if name
  have tail : ∀ s₄ items m', Kp [] s s₄ → TagsAt s₄.heap a d items m' → s₄.heap.Ns L (fun z => if z = ("tags" : Str) then some (Value.ref a) else ([("name", Value.str nm t), ("xdata_tags", .ref b)] : List (Str × Value)).reverse.lookup z) → items.size ≤ 1 →
      RowsR s₄.heap items.toList (if nm.length != 0 then [(1000, .inl nm)] else []) →
      wpAny (model prog w) A' (execs ((bodyOfS (topSt 11)).drop 2) (envOf "xdata_list" (scopeOfS (topSt 11)) L 340 (.ref 339))) (fun fl s' => Q (match fl with | .ret v => v | _ => .none) s') (fun _ _ => False) s₄ := by
    intro s₄ items m' k₄ t₄ n₄ hi hrows
    have T₄ := k₄.top T
    refine wpAny_execs_cons (wpAny_Expr_any (mappend (nm_l n₄ rfl ⟨a, d, items, m', rfl, T₄.K, t₄, by omega, nm_g T₄ (g_open w) ⟨T₄.K, t₄, fun s₅ m₅ k₅ t₅ => ?_⟩⟩)))
    have k05 : Kp [] s s₅ := k₄.loc1 k₅ ka
    have n₅ := k₅.ns n₄ (ni (Ne.symm fLa))
    have T₅ := k05.top T
    refine wpAny_execs_cons (wpAny_Expr_any (mextend (nm_l n₅ rfl ⟨a, d, _, m₅, rfl, T₅.K, t₅, nm_l n₅ rfl ⟨b, _, _, _, rfl, k05.ext _ _ hb, rfl, rfl, by simp; omega, T₅.K, t₅, fun s₆ m₆ k₆ t₆ => ?_⟩⟩)))
    have k06 : Kp [] s s₆ := k05.loc1 k₆ ka
    have n₆ := k₆.ns n₅ (ni (Ne.symm fLa))
    have T₆ := k06.top T
    refine wpAny_execs_cons (wpAny_Expr_any (mappend (nm_l n₆ rfl ⟨a, d, _, m₆, rfl, T₆.K, t₆, by simp; omega, nm_g T₆ (g_close w) ⟨T₆.K, t₆, fun s₇ m₇ k₇ t₇ => ?_⟩⟩)))
    have k07 : Kp [] s s₇ := k06.loc1 k₇ ka
    have n₇ := k₇.ns n₆ (ni (Ne.symm fLa))
    have T₇ := k07.top T
    refine wpAny_execs_cons (wpAny_Return_some (nm_l n₇ rfl (h _ _ _ _ _ k07 ka (k₁.fresh fd) t₇ ?_)))
    have pt : ∀ v r, TupR s₄.heap v r → v ≠ .ref a → TupR s₇.heap v r := by
      rintro v r ⟨z, a', c', x, o, n', rfl, e2, e3, e4, e5, e6⟩ hne
      have ha' : a' ≠ a := fun q => hne (by rw [q])
      exact ⟨z, a', c', x, o, n', rfl, e2, e3, k₇.keep _ _ (ni ha') (k₆.keep _ _ (ni ha') (k₅.keep _ _ (ni ha') e4)), e5, e6⟩
    have nota : ∀ v r, TupR s₄.heap v r → v ≠ .ref a := by
      rintro v r ⟨z, a', c', x, o, n', rfl, e2, e3, e4, e5, e6⟩ q
      cases q
      rw [t₄.obj] at e4; cases e4; cases e5
    have e : ((items.push (Value.ref 332) ++ ys.toArray).push (Value.ref 333)).toList = items.toList ++ [.ref 332] ++ ys ++ [.ref 333] := by simp
    rw [e]
    refine Paired.app (Paired.app (Paired.app ?_ (.cons (tup332 T₇.K) .nil)) (RowsR.keeps hr k07.ext)) (.cons (tup333 T₇.K) .nil)
    exact Paired.imp (fun v r x => pt v r x (nota v r x)) hrows
  have T₃ := k03.top T
  refine wpAny_execs_cons (wpAny_If (isTrue_plain (nm_l hns₃ rfl (trueStr (by omega) fun s₄ k₄ => ?_))))
  have n₄ := k₄.ns0 hns₃
  have t₄ := t₃.keeps k₄.ext
  by_cases hn : (nm.length != 0) = true
  · rw [if_pos hn]
    have T₄ := k₄.top T₃
    refine wpAny_execs_cons (wpAny_Expr_any (mappend (nm_l n₄ rfl ⟨a, d, _, _, rfl, T₄.K, t₄, by simp, ev_tup2 (ev_int fun s₅ u₅ k₅ => nm_l (k₅.ns0 n₄) rfl fun s₆ p k₆ fp hp => ?_)⟩)))
    have k46 := k₅.then k₆
    refine ⟨(k46.top T₄).K, t₄.keeps k46.ext, fun s₇ n₇ k₇ t₇ => wpAny_execs_nil ?_⟩
    have k07 : Kp [] s s₇ := ((k03.then k₄).then k46).loc1 k₇ ka
    refine tail s₇ _ _ k07 t₇ (k₇.ns (k46.ns0 n₄) (ni (Ne.symm fLa))) (by simp) ?_
    rw [if_pos hn]
    refine .cons ⟨ho, p, _, _, _, _, rfl, ⟨_, rfl⟩, ⟨_, rfl⟩, k₇.keep _ _ ?_ hp, rfl, rfl⟩ .nil
    simp only [List.mem_singleton]
    rintro rfl
    have := (t₄.keeps k₅.ext).obj
    rw [fp] at this; cases this
  · rw [if_neg hn]
    refine wpAny_execs_nil (tail s₄ _ _ (k03.then k₄) t₄ n₄ (by simp) ?_)
    rw [if_neg hn]
    exact .nil
end
end Mine

namespace Mine

section
variable {prog : Program} {w : World} {A : Around} {E : Value → Shared → Prop} {s : Shared} {env : Env}

theorem range_iter1 {n : Nat} {t : Tok} {Q : Value → Shared → Prop} (hn : n < 2 ^ 60) (h : ∀ s' I, Kp [] s s' → s.heap.get? I = none → IsRangeIter s'.heap I 0 n 1 → Q (.ref I) s') :
    wpAny (model prog w) A (call (.type "range") [.int n t]) (fun x s₁ => wpAny (model prog w) A (pyIter x) Q E s₁) E s := by
  refine call_range_1 ?_
  have r := IsRange.new s.heap 0 n 1 s.toks t (s.toks + 1)
  refine wpAny_pyIter_range (s := { s with heap := s.heap.push _, toks := s.toks + 1 + 1 }) r (small_one (by decide) (by decide) (by omega) (by omega)) ?_
  have k : Kp [] s { s with heap := (s.heap.push { cls := .type "range", data := .fields #[.int 0 s.toks, .int n t, .int 1 (s.toks + 1)] }).push { cls := .type "range_iterator", data := .fields #[rawInt 0, rawInt (Builtin.Range.rangeSize 0 n 1), rawInt 1] }, toks := s.toks + 1 + 1 } :=
    .of fun b o e => Heap.get?_push_of_some _ (Heap.get?_push_of_some _ e)
  refine h _ _ k ?_ ?_
  · refine fresh_ge ?_
    show s.heap.objs.size ≤ (s.heap.push _).objs.size
    rw [Heap.size_push]; omega
  · have e := Heap.get?_push_size (s.heap.push { cls := .type "range", data := .fields #[.int 0 s.toks, .int n t, .int 1 (s.toks + 1)] }) (o := { cls := .type "range_iterator", data := .fields #[rawInt 0, rawInt (Builtin.Range.rangeSize 0 n 1), rawInt 1] }) rfl
    have e2 : Builtin.Range.rangeSize 0 n 1 = (n : Int) := by rw [rangeSize_one]; split <;> omega
    rw [e2] at e ⊢
    exact e
theorem range_iter2 {a b : Nat} {t u : Tok} {Q : Value → Shared → Prop} (hn : b < 2 ^ 60) (ha : a ≤ b) (h : ∀ s' I, Kp [] s s' → s.heap.get? I = none → IsRangeIter s'.heap I a ((b - a : Nat) : Int) 1 → Q (.ref I) s') :
    wpAny (model prog w) A (call (.type "range") [.int a t, .int b u]) (fun x s₁ => wpAny (model prog w) A (pyIter x) Q E s₁) E s := by
  refine call_range_2 ?_
  have r := IsRange.new s.heap a b 1 t u s.toks
  refine wpAny_pyIter_range (s := { s with heap := s.heap.push _, toks := s.toks + 1 }) r (small_one (by omega) (by omega) (by omega) (by omega)) ?_
  have k : Kp [] s { s with heap := (s.heap.push { cls := .type "range", data := .fields #[.int a t, .int b u, .int 1 s.toks] }).push { cls := .type "range_iterator", data := .fields #[rawInt a, rawInt (Builtin.Range.rangeSize a b 1), rawInt 1] }, toks := s.toks + 1 } :=
    .of fun b o e => Heap.get?_push_of_some _ (Heap.get?_push_of_some _ e)
  refine h _ _ k ?_ ?_
  · refine fresh_ge ?_
    show s.heap.objs.size ≤ (s.heap.push _).objs.size
    rw [Heap.size_push]; omega
  · have e := Heap.get?_push_size (s.heap.push { cls := .type "range", data := .fields #[.int a t, .int b u, .int 1 s.toks] }) (o := { cls := .type "range_iterator", data := .fields #[rawInt a, rawInt (Builtin.Range.rangeSize a b 1), rawInt 1] }) rfl
    have e2 : Builtin.Range.rangeSize a b 1 = ((b - a : Nat) : Int) := by rw [rangeSize_one]; split <;> omega
    rw [e2] at e ⊢
    exact e

/-- for x in it: the walk over it, J what stands at each turn -/
theorem for_loop {x : Str} {px : Pos} {body : List Stmt} {I : Addr} {fp : List Addr} {n : Nat} {P : Nat → Value → Prop} {St : Nat → Heap → Prop} {R : Result → Shared → Prop} (W : Walks prog w A I fp [I] n P St) (J : Nat → Shared → Prop)
    (hL : env.locals ∉ fp) (st : St 0 s.heap) (j : J 0 s) (jn : ∀ i s, J i s → ∃ m, s.heap.Ns env.locals m)
    (step : ∀ i v s₀ s₁ E', i < n → P i v → J i s₀ → Kp [I, env.locals] s₀ s₁ → (∀ m, s₀.heap.Ns env.locals m → s₁.heap.Ns env.locals (fun z => if z = x then some v else m z)) → St (i + 1) s₁.heap →
      wpAny (model prog w) A (execs body env) (fun f s₂ => match f with | .next | .cont => St (i + 1) s₂.heap ∧ J (i + 1) s₂ | .brk => R (.ok .next) s₂ | .ret v => R (.ok (.ret v)) s₂) E' s₁)
    (fin : ∀ s₀ s₁, J n s₀ → Kp [I] s₀ s₁ → R (.ok .next) s₁) (hk : env.scope.kind = .function := by rfl) (hl : env.kindOf x = some .local := by rfl) :
    codeAny (model prog w) A (.forLoop (.Name x px) (.ref I) body [] env) R s := by
  have hIL : I ≠ env.locals := fun q => hL (q ▸ W.sub I (by simp))
  refine codeAny_forLoop (fun k s' => ∃ i, k = n - i ∧ i ≤ n ∧ St i s'.heap ∧ J i s') ?_ n ⟨0, by simp, Nat.zero_le _, st, j⟩
  rintro k s₀ ⟨i, rfl, hi, hst, hj⟩
  by_cases hlt : i < n
  · refine W.item i _ _ _ hlt hst fun v h₁ tk₁ hP hst₁ hk₁ => ?_
    have kp₁ : Kp [I] s₀ { s₀ with heap := h₁, toks := tk₁ } := .ofBut hk₁
    have hst₁ : St (i + 1) ({ s₀ with heap := h₁, toks := tk₁ } : Shared).heap := hst₁
    generalize { s₀ with heap := h₁, toks := tk₁ } = s₁ at kp₁ hst₁ ⊢
    obtain ⟨m, hn⟩ := jn i s₀ hj
    have hn₁ := kp₁.ns hn (by simpa using Ne.symm hIL)
    refine wpAny_assign_Name (st_l hn₁ (fun h₂ tk₂ hn₂ sb => ?_) hk hl)
    have kp₂ : Kp [env.locals] s₁ { s₁ with heap := h₂, toks := tk₂ } := .ofBut fun b o hb e => sb.extBut b o (by simpa using hb) e
    have hst₂ : St (i + 1) ({ s₁ with heap := h₂, toks := tk₂ } : Shared).heap := W.frame _ _ _ hst₁ fun b hb o e => sb.extBut b o (fun q => hL (q ▸ hb)) e
    have hn₂ : ({ s₁ with heap := h₂, toks := tk₂ } : Shared).heap.Ns env.locals (fun z => if z = x then some v else m z) := hn₂
    generalize ({ s₁ with heap := h₂, toks := tk₂ } : Shared) = s₂ at kp₂ hst₂ hn₂ ⊢
    refine wpAny_mono (step i v s₀ s₂ _ hlt hP hj ((kp₁.mono (by simp)).and (kp₂.mono (by simp))) (fun m' hn' => ?_) hst₂) (fun f s₃ h₃ => ?_) fun _ _ e => e
    · have e : m = m' := funext fun z => hn.agree hn' z
      exact e ▸ hn₂
    · cases f with
      | next => exact ⟨n - (i + 1), by omega, i + 1, rfl, hlt, h₃.1, h₃.2⟩
      | cont => exact ⟨n - (i + 1), by omega, i + 1, rfl, hlt, h₃.1, h₃.2⟩
      | brk => exact h₃
      | ret v => exact h₃
  · have hin : i = n := by omega
    subst hin
    refine W.done _ _ _ hst fun h₁ tk₁ hk₁ => ?_
    exact wpAny_execs_nil (fin s₀ _ hj (.ofBut hk₁))
end
end Mine

namespace Mine

abbrev opn : Row := (1002, .inl "{")
abbrev clz : Row := (1002, .inl "}")
abbrev nmr (word : Str) : Row := (1000, .inl word)

def seStep (word : Str) (rows : List Row) (i : Nat) (st : Option Nat) (lv : Int) : (Option Nat × Int) ⊕ (Nat × Nat) :=
  match st with
  | none => if rows[i]? = some (nmr word) ∧ rows[i + 1]? = some opn then .inl (some i, lv) else .inl (none, lv)
  | some a =>
    let lv' := if rows[i]? = some opn then lv + 1 else if rows[i]? = some clz then lv - 1 else lv
    if lv' = 0 then .inr (a, i) else .inl (some a, lv')
def seGo (word : Str) (rows : List Row) : Nat → Nat → Option Nat → Int → Option Nat × Option Nat
  | 0, _, st, _ => (st, none)
  | k + 1, i, st, lv => match seStep word rows i st lv with
    | .inl (st', lv') => seGo word rows k (i + 1) st' lv'
    | .inr (a, j) => (some a, some j)
def seRes (word : Str) (rows : List Row) : Option Nat × Option Nat := seGo word rows rows.length 0 none 0

def OptI (v : Value) : Option Nat → Prop
  | none => v = .none
  | some i => ∃ t, v = .int i t
theorem optI_is {v : Value} {o : Option Nat} (h : OptI v o) : (v == .none) = o.isNone := by
  cases o with
  | none => obtain rfl := h; rfl
  | some i => obtain ⟨t, rfl⟩ := h; rfl

section
variable {prog : Program} {w : World} {A : Around} {E : Value → Shared → Prop} {s : Shared} {env : Env}

theorem add_i {a b : Int} {t u : Tok} {Q : Value → Shared → Prop} (h : ∀ s' v, Kp [] s s' → Q (.int (a + b) v) s') : wpAny (model prog w) A (binaryOp .Add (.int a t) (.int b u)) Q E s := PyProof.Rows.add_int (h _ _ .tok)
theorem sub_i {a b : Int} {t u : Tok} {Q : Value → Shared → Prop} (h : ∀ s' v, Kp [] s s' → Q (.int (a - b) v) s') : wpAny (model prog w) A (binaryOp .Sub (.int a t) (.int b u)) Q E s := PyProof.Rows.sub_int (h _ _ .tok)
theorem iadd_i {a b : Int} {t u : Tok} {Q : Value → Shared → Prop} (h : ∀ s' v, Kp [] s s' → Q (.int (a + b) v) s') : wpAny (model prog w) A (inplaceOp .Add (.int a t) (.int b u)) Q E s := PyProof.Rows.iadd_int (h _ _ .tok)
theorem isub_i {a b : Int} {t u : Tok} {Q : Value → Shared → Prop} (h : ∀ s' v, Kp [] s s' → Q (.int (a - b) v) s') : wpAny (model prog w) A (inplaceOp .Sub (.int a t) (.int b u)) Q E s := PyProof.Rows.isub_int (h _ _ .tok)

theorem ev_len {a d : Addr} {items : Array Value} {n : Nat} {x : Str} {p₁ p₂ p₃ : Pos} {Q : Value → Shared → Prop} (T : Top0 w s.heap) (t : TagsAt s.heap a d items n) (hsz : items.size ≤ sizeLine)
    (ha : wpAny (model prog w) A (eval (.Name x p₂) env) (fun v s₁ => v = .ref a ∧ s₁ = s) E s)
    (h : ∀ s' u, Kp [] s s' → Q (.int items.size u) s') (hk : env.scope.kind = .function := by rfl)
    (hx : env.kindOf "len" = some .globalImplicit := by rfl) (hg : env.globals = mainGlobals := by rfl) (hb : env.builtins = builtinsNs := by rfl) (hs : starEach [.Name x p₂] env = (false, eval (.Name x p₂) env) :: starEach [] env := by rfl) :
    wpAny (model prog w) A (eval (.Call (.Name "len" p₁) [.Name x p₂] [] p₃) env) Q E s := by
  refine Call_Name rfl (nm_b T (g_len w) PyProof.Rows.Boot.«len» (callWith_method1 (first := []) (spliced_more (wpAny_mono ha (fun v s₁ h₁ => ?_) fun _ _ e => e) hs) hs rfl) (by decide) hk hx hg hb)
  obtain ⟨rfl, rfl⟩ := h₁
  exact spliced_none (tg_len T.K t hsz (h _ _ .tok))

theorem ld_l {M : Model} {x : Str} {v : Value} {m : Str → Option Value} {Q : Value → Shared → Prop} (hn : s.heap.Ns env.locals m) (hv : m x = some v) (h : Q v s) (hk : env.scope.kind = .function := by rfl)
    (hl : env.kindOf x = some .local := by rfl) : wpAny M A (loadName env x) Q E s := wpAny_loadName_local hk hl hn hv h

/-- x op= e -/
theorem aug {x : Str} {op : Operator} {e : Expr} {v₀ : Value} {px pos : Pos} {m : Str → Option Value} {Q : Flow → Shared → Prop} (hn : s.heap.Ns env.locals m) (hv : m x = some v₀)
    (h : wpAny (model prog w) A (eval e env) (fun v s₂ => wpAny (model prog w) A (inplaceOp op v₀ v) (fun r s₁ => ∃ m, s₁.heap.Ns env.locals m ∧ ∀ s₂, Kp [env.locals] s₁ s₂ → s₂.heap.Ns env.locals (fun z => if z = x then some r else m z) → Q .next s₂) E s₂) E s)
    (hk : env.scope.kind = .function := by rfl) (hl : env.kindOf x = some .local := by rfl) :
    wpAny (model prog w) A (exec (.AugAssign (.Name x px) op e pos) env) Q E s := by
  refine wpAny_AugAssign_Name (ld_l hn hv (wpAny_mono h (fun v s₂ h₂ => wpAny_mono h₂ (fun r s₁ h₁ => ?_) fun _ _ e => e) fun _ _ e => e) hk hl)
  obtain ⟨m, hn, hq⟩ := h₁
  exact st_l hn (fun h' tk n' sb => hq _ (.ofBut fun b o hb e => sb.extBut b o (by simpa using hb) e) n') hk hl

structure SeM (a : Addr) (word : Str) (st en : Option Nat) (lv : Int) (m : Str → Option Value) : Prop where
  nm : ∃ t, m "name" = some (.str word t)
  tg : m "tags" = some (.ref a)
  st : ∃ v, m "start" = some v ∧ OptI v st
  en : ∃ v, m "end" = some v ∧ OptI v en
  lv : ∃ t, m "level" = some (.int lv t)

def SeAft (s₀ : Shared) (L a : Addr) (word : Str) (rows : List Row) (s : Shared) : Prop := ∃ m st en lv, Kp [] s₀ s ∧ s.heap.Ns L m ∧ SeM a word st en lv m ∧ seRes word rows = (st, en)
def SeJ (s₀ : Shared) (L a : Addr) (word : Str) (rows : List Row) (i : Nat) (s : Shared) : Prop := ∃ m st lv, Kp [] s₀ s ∧ s.heap.Ns L m ∧ SeM a word st none lv m ∧ seGo word rows (rows.length - i) i st lv = seRes word rows
end
end Mine

namespace Mine

theorem Kp.loc' {s s₁ s₂ : Shared} {l : List Addr} (k : Kp [] s s₁) (k' : Kp l s₁ s₂) : Kp l s s₂ := (k.mono (by simp)).and k'

section
variable {prog : Program} {w : World} {A : Around} {E : Value → Shared → Prop} {s : Shared} {env : Env}

theorem SeM.set {a : Addr} {word : Str} {st en : Option Nat} {lv : Int} {m : Str → Option Value} (M : SeM a word st en lv m) {x : Str} {v : Value} (h1 : x ≠ "name") (h2 : x ≠ "tags") (h3 : x ≠ "start") (h4 : x ≠ "end") (h5 : x ≠ "level") :
    SeM a word st en lv (fun z => if z = x then some v else m z) := by
  obtain ⟨⟨t, e1⟩, e2, ⟨u, e3, o3⟩, ⟨v', e4, o4⟩, ⟨t', e5⟩⟩ := M
  refine ⟨⟨t, ?_⟩, ?_, ⟨u, ?_, o3⟩, ⟨v', ?_, o4⟩, ⟨t', ?_⟩⟩
  · rw [if_neg (Ne.symm h1)]; exact e1
  · rw [if_neg (Ne.symm h2)]; exact e2
  · rw [if_neg (Ne.symm h3)]; exact e3
  · rw [if_neg (Ne.symm h4)]; exact e4
  · rw [if_neg (Ne.symm h5)]; exact e5

/-- the turn of the scan: behind the first test -/
def seBody : List Stmt := match (bodyOfS (topSt 15)).getD 3 (.Pass default) with
  | .For _ _ b _ _ => b
  | _ => []

def bodyOfS2 : Stmt → List Stmt
  | .If _ b _ _ => b
  | _ => []

variable {a L d : Addr} {word : Str} {rows : List Row} {s₀ : Shared} {items : Array Value} {n nn : Nat}

theorem SeM.setLv {a : Addr} {word : Str} {st en : Option Nat} {lv lv' : Int} {m : Str → Option Value} (M : SeM a word st en lv m) {t : Tok} : SeM a word st en lv' (fun z => if z = ("level" : Str) then some (.int lv' t) else m z) := by
  obtain ⟨⟨t, e1⟩, e2, ⟨u, e3, o3⟩, ⟨v', e4, o4⟩, ⟨t', e5⟩⟩ := M
  exact ⟨⟨t, by rw [if_neg (by decide)]; exact e1⟩, by rw [if_neg (by decide)]; exact e2, ⟨u, by rw [if_neg (by decide)]; exact e3, o3⟩, ⟨v', by rw [if_neg (by decide)]; exact e4, o4⟩, ⟨_, if_pos rfl⟩⟩
theorem SeM.setSt {a : Addr} {word : Str} {st en : Option Nat} {lv : Int} {m : Str → Option Value} (M : SeM a word st en lv m) {i : Nat} {t : Tok} : SeM a word (some i) en lv (fun z => if z = ("start" : Str) then some (.int i t) else m z) := by
  obtain ⟨⟨t, e1⟩, e2, ⟨u, e3, o3⟩, ⟨v', e4, o4⟩, ⟨t', e5⟩⟩ := M
  exact ⟨⟨t, by rw [if_neg (by decide)]; exact e1⟩, by rw [if_neg (by decide)]; exact e2, ⟨_, if_pos rfl, _, rfl⟩, ⟨v', by rw [if_neg (by decide)]; exact e4, o4⟩, ⟨_, by rw [if_neg (by decide)]; exact e5⟩⟩
theorem SeM.setEn {a : Addr} {word : Str} {st en : Option Nat} {lv : Int} {m : Str → Option Value} (M : SeM a word st en lv m) {i : Nat} {t : Tok} : SeM a word st (some i) lv (fun z => if z = ("end" : Str) then some (.int i t) else m z) := by
  obtain ⟨⟨t, e1⟩, e2, ⟨u, e3, o3⟩, ⟨v', e4, o4⟩, ⟨t', e5⟩⟩ := M
  exact ⟨⟨t, by rw [if_neg (by decide)]; exact e1⟩, by rw [if_neg (by decide)]; exact e2, ⟨u, by rw [if_neg (by decide)]; exact e3, o3⟩, ⟨_, if_pos rfl, _, rfl⟩, ⟨_, by rw [if_neg (by decide)]; exact e5⟩⟩

theorem seGo_in {word : Str} {rows : List Row} {i : Nat} {st st' : Option Nat} {lv lv' : Int} (hi : i < rows.length) (e : seStep word rows i st lv = .inl (st', lv')) : seGo word rows (rows.length - i) i st lv = seGo word rows (rows.length - (i + 1)) (i + 1) st' lv' := by
  have e1 : rows.length - i = (rows.length - (i + 1)) + 1 := by omega
  rw [e1, seGo, e]
theorem seGo_out {word : Str} {rows : List Row} {i : Nat} {st : Option Nat} {lv : Int} {x y : Nat} (hi : i < rows.length) (e : seStep word rows i st lv = .inr (x, y)) : seGo word rows (rows.length - i) i st lv = (some x, some y) := by
  have e1 : rows.length - i = (rows.length - (i + 1)) + 1 := by omega
  rw [e1, seGo, e]

abbrev seEnv (L : Addr) : Env := envOf "get_start_and_end_of_named_list_in_xdata" (scopeOfS (topSt 15)) L 374 (.ref 373)

/-- the turn's last statement -/
theorem se_tail {i : Nat} {st : Option Nat} {lv : Int} {m : Str → Option Value} {row : Row} {vt : Value} {u : Tok} {E' : Value → Shared → Prop}
    (T : Top0 w s₀.heap) (r : Room A (n + 6)) (hL : s₀.heap.get? L = none) (hi : i < rows.length) (k : Kp [] s₀ s) (hn : s.heap.Ns L m) (M : SeM a word st none lv m) (hrow : rows[i]? = some row) (ht : RowR s₀.heap vt row) (mt : m "tag" = some vt) (mi : m "index" = some (.int i u))
    (hJ : seGo word rows (rows.length - i) i st lv = seRes word rows) (hnone : st = none → seStep word rows i st lv = .inl (none, lv)) :
    wpAny (model prog w) A (execs (seBody.drop 2) (seEnv L)) (fun f s₂ => Kp [L] s s₂ ∧ match f with | .next | .cont => SeJ s₀ L a word rows (i + 1) s₂ | .brk => SeAft s₀ L a word rows s₂ | .ret _ => False) E' s := by
  obtain ⟨v, ms, hv⟩ := M.st
  refine wpAny_execs_cons (wpAny_If (wpAny_isTrue_Compare1 (nm_l hn ms (PyProof.Rows.Constant_none (isnot_none_gen (wpAny_truthy_bool ?_))))))
  rw [optI_is hv]
  cases st with
  | none =>
    refine wpAny_execs_nil (wpAny_execs_nil ⟨.refl, m, none, lv, k, hn, M, ?_⟩)
    rw [← seGo_in hi (hnone rfl)]; exact hJ
  | some x =>
    have T₁ := k.top T
    -- behind the level
    have fin : ∀ s₁ m₁ lv₁, Kp [L] s s₁ → s₁.heap.Ns L m₁ → SeM a word (some x) none lv₁ m₁ → m₁ "index" = some (.int i u) → lv₁ = (if rows[i]? = some opn then lv + 1 else if rows[i]? = some clz then lv - 1 else lv) →
        wpAny (model prog w) A (execs [((bodyOfS2 (seBody.getD 2 (.Pass default))).getD 1 (.Pass default))] (seEnv L)) (fun f s₂ => match f with | .next => wpAny (model prog w) A (execs [] (seEnv L)) (fun f s₂ => Kp [L] s s₂ ∧ match f with | .next | .cont => SeJ s₀ L a word rows (i + 1) s₂ | .brk => SeAft s₀ L a word rows s₂ | .ret _ => False) E' s₂ | f => Kp [L] s s₂ ∧ match f with | .next | .cont => SeJ s₀ L a word rows (i + 1) s₂ | .brk => SeAft s₀ L a word rows s₂ | .ret _ => False) E' s₁ := by
      intro s₁ m₁ lv₁ k₁ n₁ M₁ mi₁ hlv
      obtain ⟨t₁, ml₁⟩ := M₁.lv
      refine wpAny_execs_cons (wpAny_If (wpAny_isTrue_Compare1 (nm_l n₁ ml₁ (ev_int fun s₂ t₂ k₂ => PyProof.Rows.eq_int (wpAny_truthy_bool ?_)))))
      have n₂ := k₂.ns0 n₁
      have k12 : Kp [L] s s₂ := k₁.then k₂
      by_cases h0 : lv₁ = 0
      · rw [if_pos (by simp [h0])]
        refine wpAny_execs_cons (asg (nm_l n₂ mi₁ ⟨m₁, n₂, fun s₃ k₃ n₃ => wpAny_execs_cons (wpAny_Break ⟨k12.and k₃, _, some x, some i, lv₁, k.loc1 (k12.and k₃) hL, n₃, M₁.setEn, ?_⟩)⟩))
        rw [← hJ]
        exact seGo_out hi (by simp only [seStep]; rw [← hlv, if_pos h0])
      · rw [if_neg (by simp [h0])]
        refine wpAny_execs_nil (wpAny_execs_nil (wpAny_execs_nil ⟨k12, m₁, some x, lv₁, k.loc1 k12 hL, n₂, M₁, ?_⟩))
        rw [← hJ]
        exact (seGo_in hi (by simp only [seStep]; rw [← hlv, if_neg h0])).symm
    refine wpAny_execs_cons (wpAny_If (wpAny_isTrue_Compare1 (nm_l hn mt (nm_g T₁ (g_open w) (rowEq T₁ (n := n + 2) r (ht.keeps k.ext) (tup332 T₁.K) fun s₂ k₂ => wpAny_truthy_bool ?_)))))
    have n₂ := k₂.ns0 hn
    obtain ⟨t₁, ml⟩ := M.lv
    by_cases ho : row = opn
    · rw [if_pos (by simp [ho])]
      refine wpAny_execs_cons (aug n₂ ml (ev_int fun s₃ t₃ k₃ => iadd_i fun s₄ v₄ k₄ => ⟨m, k₄.ns0 (k₃.ns0 n₂), fun s₅ k₅ n₅ => wpAny_execs_nil ?_⟩))
      refine fin s₅ _ (lv + 1) ((k₂.then (k₃.then k₄)).loc' k₅) n₅ M.setLv (by rw [if_neg (by decide)]; exact mi) ?_
      rw [hrow, if_pos (by rw [ho])]
    · rw [if_neg (by simp [ho])]
      have T₂ := k₂.top T₁
      refine wpAny_execs_cons (wpAny_If (wpAny_isTrue_Compare1 (nm_l n₂ mt (nm_g T₂ (g_close w) (rowEq T₂ (n := n + 2) r ((ht.keeps k.ext).keeps k₂.ext) (tup333 T₂.K) fun s₃ k₃ => wpAny_truthy_bool ?_)))))
      have n₃ := k₃.ns0 n₂
      by_cases hc : row = clz
      · rw [if_pos (by simp [hc])]
        refine wpAny_execs_cons (aug n₃ ml (ev_int fun s₄ t₄ k₄ => isub_i fun s₅ v₅ k₅ => ⟨m, k₅.ns0 (k₄.ns0 n₃), fun s₆ k₆ n₆ => wpAny_execs_nil (wpAny_execs_nil ?_)⟩))
        refine fin s₆ _ (lv - 1) (((k₂.then k₃).then (k₄.then k₅)).loc' k₆) n₆ M.setLv (by rw [if_neg (by decide)]; exact mi) ?_
        rw [hrow, if_neg (by simp [ho]), if_pos (by rw [hc])]
      · rw [if_neg (by simp [hc])]
        refine wpAny_execs_nil (wpAny_execs_nil ?_)
        refine fin s₃ _ lv ((k₂.then k₃).mono (by simp)) n₃ M mi ?_
        rw [hrow, if_neg (by simp [ho]), if_neg (by simp [hc])]
end
end Mine

namespace Mine

theorem sizeLine_lt : sizeLine < 2 ^ 60 := by rw [sizeLine_eq]; decide

section
variable {prog : Program} {w : World} {A : Around} {E : Value → Shared → Prop} {s : Shared} {env : Env}
variable {a L d : Addr} {word : Str} {rows : List Row} {s₀ : Shared} {items : Array Value} {n nn : Nat}

/-- t[i], t a Tags -/
theorem tgAt {value slice : Expr} {i : Nat} {u : Tok} {x : Value} {Q : Value → Shared → Prop} (T : Top0 w s.heap) (t : TagsAt s.heap a d items nn) (hsz : items.size ≤ sizeLine) (hx : items[i]? = some x) (h : Q x s)
    (hs : subscripted slice false (.ref a) (.int i u) = operate [.ref a, .int i u] (getItem (.ref a) (.int i u)) := by with_unfolding_all rfl) :
    wpAny (model prog w) A (subscriptTail value slice (.ref a) (.int i u)) Q E s := by
  have hlt : i < items.size := (Array.getElem?_eq_some_iff.mp hx).1
  have := sizeLine_lt
  exact tg_tail T.K t (tg_getInt T.K t (by omega) (by omega) (by simpa using hx) h) hs

theorem se_turn {i : Nat} {st : Option Nat} {lv : Int} {m : Str → Option Value} {u : Tok} {E' : Value → Shared → Prop}
    (T : Top0 w s₀.heap) (r : Room A (n + 6)) (hL : s₀.heap.get? L = none) (t : TagsAt s₀.heap a d items nn) (hsz : items.size ≤ sizeLine) (tr : TagsR s₀.heap items.toList rows)
    (hlast : ∀ i, rows[i]? = some (nmr word) → i + 1 < rows.length) (hok : okR (nmr word)) (hi : i < rows.length) (k : Kp [] s₀ s) (hn : s.heap.Ns L m) (M : SeM a word st none lv m) (mi : m "index" = some (.int i u))
    (hJ : seGo word rows (rows.length - i) i st lv = seRes word rows) :
    wpAny (model prog w) A (execs seBody (seEnv L)) (fun f s₂ => Kp [L] s s₂ ∧ match f with | .next | .cont => SeJ s₀ L a word rows (i + 1) s₂ | .brk => SeAft s₀ L a word rows s₂ | .ret _ => False) E' s := by
  have hrl : items.size = rows.length := by simpa using tr.length
  have get : ∀ j, j < rows.length → ∃ v row, items[j]? = some v ∧ rows[j]? = some row ∧ RowR s₀.heap v row := by
    intro j hj
    obtain ⟨v, h1, h2⟩ := Paired.get tr (show rows[j]? = some rows[j] by simp [hj])
    exact ⟨v, _, by simpa using h1, by simp [hj], h2⟩
  obtain ⟨vt, row, hv, hrow, hr⟩ := get i hi
  have T₁ := k.top T
  refine wpAny_execs_cons (asg (Subscript_ (nm_l hn M.tg (nm_l hn mi (tgAt T₁ (t.keeps k.ext) hsz hv ⟨m, hn, fun s₁ k₁ n₁ => ?_⟩)))))
  have k01 : Kp [] s₀ s₁ := k.loc1 k₁ hL
  have T₂ := k01.top T
  have M₁ : SeM a word st none lv _ := M.set (x := "tag") (v := vt) (by decide) (by decide) (by decide) (by decide) (by decide)
  have mt₁ : (fun z => if z = ("tag" : Str) then some vt else m z) "tag" = some vt := if_pos rfl
  have mi₁ : (fun z => if z = ("tag" : Str) then some vt else m z) "index" = some (.int i u) := by show (if _ then _ else _) = _; rw [if_neg (by decide)]; exact mi
  generalize (fun z => if z = ("tag" : Str) then some vt else m z) = m₁ at n₁ M₁ mt₁ mi₁
  obtain ⟨v, ms, hvs⟩ := M₁.st
  refine wpAny_execs_cons (wpAny_If (isTrue_and (wpAny_isTrue_Compare1 (nm_l n₁ ms (PyProof.Rows.Constant_none (is_none_gen (wpAny_truthy_bool ?_)))))))
  rw [optI_is hvs]
  cases st with
  | some x =>
    refine wpAny_execs_nil ?_
    refine wpAny_mono (se_tail T r hL hi k01 n₁ M₁ hrow hr mt₁ mi₁ hJ (by intro q; cases q)) (fun f s₂ h₂ => ⟨k₁.and h₂.1, h₂.2⟩) fun _ _ e => e
  | none =>
    obtain ⟨tw, mn⟩ := M₁.nm
    -- the name, as the text asks for it
    refine isTrue_and (wpAny_isTrue_Compare1 (nm_l n₁ mt₁ (ev_tup2 (ev_int fun s₂ t₂ k₂ => nm_l (k₂.ns0 n₁) mn fun s₃ p k₃ fp hp => ?_))))
    have k13 := k₂.then k₃
    have tp : TupR s₃.heap (.ref p) (nmr word) := ⟨hok, p, _, _, _, _, rfl, ⟨_, rfl⟩, ⟨_, rfl⟩, hp, rfl, rfl⟩
    have k03 := k01.then k13
    refine rowEq (k03.top T) (n := n + 2) r (hr.keeps k03.ext) tp fun s₄ k₄ => wpAny_truthy_bool ?_
    have k14 := k13.then k₄
    have n₄ := k14.ns0 n₁
    have k04 := k01.then k14
    have skip : row ≠ nmr word ∨ rows[i + 1]? ≠ some opn → seStep word rows i none lv = .inl (none, lv) := by
      intro h
      simp only [seStep, hrow]
      rw [if_neg]
      rintro ⟨h1, h2⟩
      rcases h with h | h
      · exact h (by injection h1)
      · exact h h2
    by_cases hw : row = nmr word
    · rw [if_pos (by simp [hw])]
      refine isTrue_and_nil ?_
      have hj : i + 1 < rows.length := hlast i (by rw [hrow, hw])
      obtain ⟨vn, rown, hvn, hrown, hrn⟩ := get (i + 1) hj
      have T₄ := k04.top T
      refine wpAny_execs_cons (asg (Subscript_ (nm_l n₄ M₁.tg (wpAny_BinOp (nm_l n₄ mi₁ (ev_int fun s₅ t₅ k₅ => add_i fun s₆ t₆ k₆ => ?_))))))
      have k46 := k₅.then k₆
      have k06 := k04.then k46
      refine tgAt (i := i + 1) (k06.top T) (t.keeps k06.ext) hsz hvn ⟨m₁, k46.ns0 n₄, fun s₇ k₇ n₇ => ?_⟩
      have k07 : Kp [] s₀ s₇ := k06.loc1 k₇ hL
      have T₇ := k07.top T
      have M₇ : SeM a word none none lv _ := M₁.set (x := "next_tag") (v := vn) (by decide) (by decide) (by decide) (by decide) (by decide)
      have mi₇ : (fun z => if z = ("next_tag" : Str) then some vn else m₁ z) "index" = some (.int i u) := by show (if _ then _ else _) = _; rw [if_neg (by decide)]; exact mi₁
      have mt₇ : (fun z => if z = ("next_tag" : Str) then some vn else m₁ z) "tag" = some vt := by show (if _ then _ else _) = _; rw [if_neg (by decide)]; exact mt₁
      have mx₇ : (fun z => if z = ("next_tag" : Str) then some vn else m₁ z) "next_tag" = some vn := if_pos rfl
      generalize (fun z => if z = ("next_tag" : Str) then some vn else m₁ z) = m₇ at n₇ M₇ mi₇ mt₇ mx₇
      refine wpAny_execs_cons (wpAny_If (wpAny_isTrue_Compare1 (nm_l n₇ mx₇ (nm_g T₇ (g_open w) (rowEq T₇ (n := n + 2) r (hrn.keeps k07.ext) (tup332 T₇.K) fun s₈ k₈ => wpAny_truthy_bool ?_)))))
      have k08 := k07.then k₈
      have n₈ := k₈.ns0 n₇
      have k18 : Kp [L] s s₈ := (k₁.then (k14.then k46)).and (k₇.then k₈)
      by_cases ho : rown = opn
      · rw [if_pos (by simp [ho])]
        refine wpAny_execs_cons (asg (nm_l n₈ mi₇ ⟨m₇, n₈, fun s₉ k₉ n₉ => wpAny_execs_cons (wpAny_Continue ⟨k18.and k₉, _, some i, lv, k08.loc1 k₉ hL, n₉, M₇.setSt, ?_⟩)⟩))
        rw [← hJ]
        exact (seGo_in hi (by simp only [seStep]; rw [if_pos ⟨by rw [hrow, hw], by rw [hrown, ho]⟩])).symm
      · rw [if_neg (by simp [ho])]
        refine wpAny_execs_nil (wpAny_execs_nil ?_)
        refine wpAny_mono (se_tail T r hL hi k08 n₈ M₇ hrow hr mt₇ mi₇ hJ (fun _ => skip (.inr (by rw [hrown]; simpa using ho)))) (fun f s₂ h₂ => ⟨k18.and h₂.1, h₂.2⟩) fun _ _ e => e
    · rw [if_neg (by simp [hw])]
      refine wpAny_execs_nil ?_
      refine wpAny_mono (se_tail T r hL hi k04 n₄ M₁ hrow hr mt₁ mi₁ hJ (fun _ => skip (.inl hw))) (fun f s₂ h₂ => ⟨(k₁.then k14).and h₂.1, h₂.2⟩) fun _ _ e => e
end
end Mine

namespace Mine

section
variable {prog : Program} {w : World} {A : Around} {E : Value → Shared → Prop} {s : Shared} {env : Env}
variable {a L d : Addr} {word : Str} {rows : List Row} {s₀ : Shared} {items : Array Value} {n nn : Nat}

/-- what get_start_and_end.. gives -/
def SePost (base : Heap) (outer : List Env) (word : Str) (rows : List Row) (s : Shared) (Q E : Value → Shared → Prop) : Prop :=
  match seRes word rows with
  | (none, _) => ∀ s' e, Raised base outer 364 s s' e → E (.ref e) s'
  | (some _, none) => ∀ s' e, Raised base outer 44 s s' e → E (.ref e) s'
  | (some i, some j) => ∀ s' x t u, Kp [] s s' → s'.heap.get? x = some (tupO [.int (i : Int) t, .int ((j : Int) + 1) u]) → Q (.ref x) s'

theorem se_call {base : Heap} {outer : List Env} {tw : Tok} {Q : Value → Shared → Prop} (T : Top0 w s.heap) (r : Room A (n + 7)) (B : Below A base outer s.heap) (t : TagsAt s.heap a d items nn) (hsz : items.size ≤ sizeLine) (tr : TagsR s.heap items.toList rows)
    (hlast : ∀ i, rows[i]? = some (nmr word) → i + 1 < rows.length) (hok : okR (nmr word)) (h : SePost base outer word rows s Q E) :
    wpAny (model prog w) A (call (.ref 374) [.str word tw, .ref a]) Q E s := by
  have hrl : items.size = rows.length := by simpa using tr.length
  refine call_fE (binds := [("name", .str word tw), ("tags", .ref a)]) (fn_se T.K) T r B (fun _ _ _ _ => rfl) (locs rfl) (fun A' s₁ L r₁ k₁ hL hns T₁ B₁ => ?_)
  refine wpAny_execs_cons (asg (PyProof.Rows.Constant_none ⟨_, hns, fun s₂ k₂ n₂ => ?_⟩))
  refine wpAny_execs_cons (asg (PyProof.Rows.Constant_none ⟨_, n₂, fun s₃ k₃ n₃ => ?_⟩))
  refine wpAny_execs_cons (asg (ev_int fun s₄ t₄ k₄ => ⟨_, k₄.ns0 n₃, fun s₅ k₅ n₅ => ?_⟩))
  have k05 : Kp [] s s₅ := ((((k₁.loc1 k₂ hL).loc1 k₃ hL).then k₄).loc1 k₅ hL)
  obtain ⟨m₅, n₅, M₅⟩ : ∃ m, s₅.heap.Ns L m ∧ SeM a word none none 0 m := ⟨_, n₅, ⟨tw, by rw [if_neg (by decide), if_neg (by decide), if_neg (by decide)]; rfl⟩, by rw [if_neg (by decide), if_neg (by decide), if_neg (by decide)]; rfl,
    ⟨.none, by rw [if_neg (by decide), if_neg (by decide), if_pos rfl], rfl⟩, ⟨.none, by rw [if_neg (by decide), if_pos rfl], rfl⟩, ⟨t₄, if_pos rfl⟩⟩
  -- behind the loop
  have rest : ∀ s₆, SeAft s L a word rows s₆ → wpAny (model prog w) A' (execs ((bodyOfS (topSt 15)).drop 4) (seEnv L)) (fun fl s' => Q (match fl with | .ret v => v | _ => .none) s')
        (fun e s'' => wpAny (model prog w) A' (leaving (seEnv L) e) (fun _ s₃ => E e s₃) (fun e' s₃ => E e' s₃) s'') s₆ := by
    rintro s₆ ⟨m, st, en, lv, k₆, n₆, M₆, hres⟩
    obtain ⟨vs, ms, hvs⟩ := M₆.st
    obtain ⟨ve, me, hve⟩ := M₆.en
    have T₆ := k₆.top T
    have B₆ : Below A' base (seEnv L :: outer) s₆.heap := by
      refine ⟨B₁.stack, fun b o e => k₆.ext _ _ (B.stays b o e), ?_⟩
      obtain ⟨hk, ⟨L', o, hf, hn, ho, hd⟩, hr⟩ := B₁.frames
      obtain rfl : L = L' := Option.some.inj hf
      obtain ⟨oL, _, _, hoL, hdL, _⟩ := n₆
      exact ⟨hk, ⟨L, oL, rfl, hn, hoL, fun vs q => by rw [hdL] at q; cases q⟩, B.frames.of_keeps fun b o e _ => ⟨o, k₆.ext _ _ e, rfl⟩⟩
    refine wpAny_execs_cons (wpAny_If (wpAny_isTrue_Compare1 (nm_l n₆ ms (PyProof.Rows.Constant_none (is_none_gen (wpAny_truthy_bool ?_))))))
    rw [optI_is hvs]
    unfold SePost at h
    rw [hres] at h
    cases st with
    | none =>
      refine wpAny_execs_cons (raise_cls T₆.e1 r₁.hd (nm_g T₆ (g_nf w) ⟨rfl, rfl⟩) fun h' e hm => ?_)
      exact leave_made B₆ rfl hm k₆ fun s' R => h s' e R
    | some i =>
      refine wpAny_execs_nil ?_
      refine wpAny_execs_cons (wpAny_If (wpAny_isTrue_Compare1 (nm_l n₆ me (PyProof.Rows.Constant_none (is_none_gen (wpAny_truthy_bool ?_))))))
      rw [optI_is hve]
      cases en with
      | none =>
        refine wpAny_execs_cons (raise_str T₆.e2 r₁.hd (nm_g T₆ (g_ds w) ⟨rfl, rfl⟩) fun s₇ h' e u k₇ hm => ?_)
        exact leave_made (s := { s₇ with heap := h' }) (h := s₇.heap) (Below.ext B₆ k₇.ext) rfl hm (k₆.then k₇) fun s' R => h s' e R
      | some j =>
        refine wpAny_execs_nil ?_
        obtain ⟨ti, rfl⟩ := hvs
        obtain ⟨tj, rfl⟩ := hve
        refine wpAny_execs_cons (wpAny_Return_some (ev_tup2 (nm_l n₆ ms (wpAny_BinOp (nm_l n₆ me (ev_int fun s₇ t₇ k₇ => add_i fun s₈ t₈ k₈ s₉ x k₉ fx hx => ?_))))))
        exact h s₉ x _ _ (((k₆.then k₇).then k₈).then k₉) hx
  have T₅ := k05.top T
  refine wpAny_execs_cons (wpAny_For (Call_Name rfl (nm_b T₅ (g_range w) PyProof.Rows.Boot.«range» (PyProof.Rows.callWith_type1 (spliced_more (ev_len T₅ (t.keeps k05.ext) hsz (nm_l n₅ M₅.tg ⟨rfl, rfl⟩) fun s₆ u₆ k₆ => spliced_none ?_))))))
  have hlt := sizeLine_lt
  refine range_iter1 (by omega) fun s₇ I k₇ hI hit => ?_
  have k07 := (k05.then k₆).then k₇
  have n₇ := (k₆.then k₇).ns0 n₅
  have hIL : L ≠ I := Ne.symm (Ns.ne (k₆.ns0 n₅) hI)
  refine for_loop (Walks.range r₁.hd I 0 1 items.size) (SeJ s L a word rows) (ni hIL) ?_ ?_ ?_ ?_ ?_
  · simpa using hit
  · refine ⟨m₅, none, 0, k07, n₇, M₅, ?_⟩
    simp only [Nat.sub_zero]; rfl
  · rintro i s' ⟨m, _, _, _, hn, _⟩; exact ⟨m, hn⟩
  · rintro i v sa sb E' hi ⟨tv, rfl⟩ ⟨m, st, lv, ka, na, Ma, hJ⟩ kb hstore hst
    have nb := hstore m na
    have hIf : s.heap.get? I = none := k05.fresh (k₆.fresh hI)
    have k0b : Kp [] s sb := ka.loc kb (by simp; exact ⟨hIf, hL⟩)
    have ev : (Value.int (0 + (i : Int) * 1) tv) = .int i tv := by congr 1; omega
    rw [ev] at nb
    have Mb : SeM a word st none lv _ := Ma.set (x := "index") (v := .int i tv) (by decide) (by decide) (by decide) (by decide) (by decide)
    refine wpAny_mono (se_turn T r₁ hL t hsz tr hlast hok (by omega) k0b nb Mb (if_pos rfl) hJ) (fun f s₂ h₂ => ?_) fun _ _ e => e
    obtain ⟨kk, h₂⟩ := h₂
    have hst' : IsRangeIter s₂.heap I (0 + ((i + 1 : Nat) : Int) * 1) ((items.size : Int) - ((i + 1 : Nat) : Int)) 1 := kk.keep _ _ (by simpa using Ne.symm hIL) hst
    cases f with
    | next => exact ⟨hst', h₂⟩
    | cont => exact ⟨hst', h₂⟩
    | brk => exact rest s₂ h₂
    | ret v => exact h₂.elim
  · rintro sa sb ⟨m, st, lv, ka, na, Ma, hJ⟩ kb
    have hIf : s.heap.get? I = none := k05.fresh (k₆.fresh hI)
    refine rest sb ⟨m, st, none, lv, ka.loc1 kb hIf, kb.ns na (by simpa using hIL), Ma, ?_⟩
    rw [← hJ, hrl]
    simp [seGo]
end
end Mine

namespace Mine

theorem seGo_found {word : Str} {rows : List Row} : ∀ {k i : Nat} {st : Option Nat} {lv : Int} {x y : Nat}, k = rows.length - i → i ≤ rows.length → (∀ z, st = some z → z < i) → seGo word rows k i st lv = (some x, some y) → x < y ∧ y < rows.length
  | 0, i, st, lv, x, y, hk, hi, hs, e => by simp [seGo] at e
  | k + 1, i, st, lv, x, y, hk, hi, hs, e => by
    rw [seGo] at e
    cases q : seStep word rows i st lv with
    | inl p =>
      obtain ⟨st', lv'⟩ := p
      rw [q] at e
      refine seGo_found (by omega) (by omega) ?_ e
      intro z hz
      subst hz
      cases st with
      | none =>
        simp only [seStep] at q
        split at q
        · cases q; omega
        · cases q
      | some a =>
        simp only [seStep] at q
        have := hs a rfl
        generalize (if rows[i]? = some opn then lv + 1 else if rows[i]? = some clz then lv - 1 else lv) = l at q
        split at q <;> cases q
        omega
    | inr p =>
      obtain ⟨a, j⟩ := p
      rw [q] at e
      cases e
      cases st with
      | none =>
        simp only [seStep] at q
        split at q <;> cases q
      | some b =>
        simp only [seStep] at q
        have := hs b rfl
        generalize (if rows[i]? = some opn then lv + 1 else if rows[i]? = some clz then lv - 1 else lv) = l at q
        split at q <;> cases q
        exact ⟨this, by omega⟩
theorem seRes_found {word : Str} {rows : List Row} {x y : Nat} (e : seRes word rows = (some x, some y)) : x < y ∧ y < rows.length := seGo_found rfl (Nat.zero_le _) (by intro z q; cases q) e

section
variable {prog : Program} {w : World} {A : Around} {E : Value → Shared → Prop} {s : Shared} {env : Env}

/-- x, y = e -/
theorem asg2 {x y : Str} {e : Expr} {k : Nat} {p₁ p₂ tp pos : Pos} {Q : Flow → Shared → Prop} (hh : A.handled = none)
    (h : wpAny (model prog w) A (eval e env) (fun v s₁ => ∃ a v₁ v₂ m, v = .ref a ∧ s₁.heap.get? a = some (tupO [v₁, v₂]) ∧ s₁.heap.Ns env.locals m ∧ ∀ s₂, Kp [env.locals] s₁ s₂ →
      s₂.heap.Ns env.locals (fun z => if z = y then some v₂ else if z = x then some v₁ else m z) → Q .next s₂) E s)
    (hs : swapsWithSole [.Tuple [.Name x p₁, .Name y p₂] k tp] e pos.line env = pure false := by rfl) (hw : swappedStores [.Tuple [.Name x p₁, .Name y p₂] k tp] e env = pure none := by rfl)
    (hk : env.scope.kind = .function := by rfl) (hl : env.kindOf x = some .local := by rfl) (hl' : env.kindOf y = some .local := by rfl) :
    wpAny (model prog w) A (exec (.Assign [.Tuple [.Name x p₁, .Name y p₂] k tp] e pos) env) Q E s := by
  refine Assign_Tuple (wpAny_mono h (fun v s₁ h₁ => ?_) fun _ _ e => e) hs hw
  obtain ⟨a, v₁, v₂, m, rfl, ha, hn, hq⟩ := h₁
  refine assign_Tuple_tuple hh (isTup ha) rfl rfl fun h₂ he => ?_
  have k₂ : Kp [] s₁ { s₁ with heap := h₂ } := .of fun b o e => he b o (Nat.ne_of_lt (Heap.lt_size e)) e
  generalize ({ s₁ with heap := h₂ } : Shared) = s₂ at k₂ ⊢
  refine wpAny_bind (wpAny_holding (wpAny_assign_Name (st_l (k₂.ns0 hn) (fun h₃ t₃ n₃ sb₃ => ?_) hk hl)))
  have k₃ : Kp [env.locals] s₂ { s₂ with heap := h₃, toks := t₃ } := .ofBut fun b o hb e => sb₃.extBut b o (by simpa using hb) e
  have n₃ : ({ s₂ with heap := h₃, toks := t₃ } : Shared).heap.Ns env.locals (fun z => if z = x then some v₁ else m z) := n₃
  generalize ({ s₂ with heap := h₃, toks := t₃ } : Shared) = s₃ at k₃ n₃ ⊢
  refine wpAny_bind (wpAny_holding (wpAny_assign_Name (st_l n₃ (fun h₄ t₄ n₄ sb₄ => ?_) hk hl')))
  have k₄ : Kp [env.locals] s₃ { s₃ with heap := h₄, toks := t₄ } := .ofBut fun b o hb e => sb₄.extBut b o (by simpa using hb) e
  exact wpAny_pure (hq _ ((k₂.loc' k₃).and k₄) n₄)

/-- e₁:e₂ -/
theorem ev_slice {e₁ e₂ : Expr} {p : Pos} {Q : Value → Shared → Prop}
    (h : wpAny (model prog w) A (eval e₁ env) (fun v₁ s₁ => wpAny (model prog w) A (eval e₂ env) (fun v₂ s₂ => ∀ s₃ sl, Kp [] s₂ s₃ → s₃.heap.IsSliceOf sl v₁ v₂ .none → Q (.ref sl) s₃) E s₁) E s) :
    wpAny (model prog w) A (eval (.Slice (some e₁) (some e₂) none p) env) Q E s := by
  refine wpAny_Slice ?_
  rw [evalPart_some]
  refine wpAny_mono h (fun v₁ s₁ h₁ => ?_) fun _ _ e => e
  rw [evalPart_some]
  refine wpAny_mono h₁ (fun v₂ s₂ h₂ => ?_) fun _ _ e => e
  rw [evalPart_none]
  exact wpAny_pure (h₂ _ _ .push (.new _ _ _ _))

variable {a L d : Addr} {word : Str} {rows : List Row} {s₀ : Shared} {items : Array Value} {n nn : Nat}

def CutPost (base : Heap) (outer : List Env) (word : Str) (rows : List Row) (a d : Addr) (items : Array Value) (s : Shared) (Q E : Value → Shared → Prop) : Prop :=
  match seRes word rows with
  | (none, _) => ∀ s' e, Raised base outer 364 s s' e → E (.ref e) s'
  | (some _, none) => ∀ s' e, Raised base outer 44 s s' e → E (.ref e) s'
  | (some i, some j) => ∀ s' its m, Kp [a] s s' → TagsAt s'.heap a d its m → its.toList = items.toList.take i ++ items.toList.drop (j + 1) → Q (.ref a) s'
def GetPost (base : Heap) (outer : List Env) (word : Str) (rows : List Row) (items : Array Value) (s : Shared) (Q E : Value → Shared → Prop) : Prop :=
  match seRes word rows with
  | (none, _) => ∀ s' e, Raised base outer 364 s s' e → E (.ref e) s'
  | (some _, none) => ∀ s' e, Raised base outer 44 s s' e → E (.ref e) s'
  | (some i, some j) => ∀ s' b d its m, Kp [] s s' → s.heap.get? b = none → s.heap.get? d = none → TagsAt s'.heap b d its m → its.toList = (items.toList.drop i).take (j + 1 - i) → Q (.ref b) s'

theorem get_call {base : Heap} {outer : List Env} {tw : Tok} {Q : Value → Shared → Prop} (T : Top0 w s.heap) (r : Room A (n + 8)) (B : Below A base outer s.heap) (t : TagsAt s.heap a d items nn) (hsz : items.size ≤ sizeLine) (tr : TagsR s.heap items.toList rows)
    (hlast : ∀ i, rows[i]? = some (nmr word) → i + 1 < rows.length) (hok : okR (nmr word)) (h : GetPost base outer word rows items s Q E) :
    wpAny (model prog w) A (call (.ref 354) [.str word tw, .ref a]) Q E s := by
  have hrl : items.size = rows.length := by simpa using tr.length
  refine call_fE (binds := [("name", .str word tw), ("tags", .ref a)]) (fn_named T.K) T r B (fun _ _ _ _ => rfl) (locs rfl) (fun A' s₁ L r₁ k₁ hL hns T₁ B₁ => ?_)
  refine wpAny_execs_cons (asg2 r₁.hd (Call_Name rfl (nm_g T₁ (g_se w) (callWith_K T₁.K (k_k374 w) (spliced_more (nm_l hns rfl (spliced_more (nm_l hns rfl (spliced_none ⟨T₁.K, se_call T₁ r₁ B₁ (t.keeps k₁.ext) hsz (tr.keeps k₁.ext) hlast hok ?_⟩)))))))))
  unfold SePost
  unfold GetPost at h
  cases hres : seRes word rows with
  | mk st en =>
  rw [hres] at h
  cases st with
  | none => exact fun s₂ e R => leave_on B₁.stack rfl R fun s₃ R₃ => h s₃ e (R₃.pre k₁)
  | some i =>
    cases en with
    | none => exact fun s₂ e R => leave_on B₁.stack rfl R fun s₃ R₃ => h s₃ e (R₃.pre k₁)
    | some j =>
      obtain ⟨hij, hj⟩ := seRes_found hres
      intro s₂ x ti tj k₂ hx
      refine ⟨x, _, _, _, rfl, hx, k₂.ns0 hns, fun s₃ k₃ n₃ => ?_⟩
      have k03 : Kp [] s s₃ := (k₁.then k₂).loc1 k₃ hL
      have T₃ := k03.top T
      refine wpAny_execs_cons (wpAny_Return_some (Call_Name rfl (nm_g T₃ (g_tags w) (callWith_K T₃.K (k_k327 w) (spliced_more (Subscript_ (nm_l n₃ rfl (ev_slice (nm_l n₃ rfl (nm_l n₃ rfl fun s₄ sl k₄ hsl => ?_))))))))))
      have k04 := k03.then k₄
      have T₄ := k04.top T
      refine tg_tail T₄.K (t.keeps k04.ext) (tg_getSlice T₄.K (t.keeps k04.ext) hsl (.int i ti) (.int (j + 1) tj) hsz ?_) (by with_unfolding_all rfl)
      have k₅ : Kp [] s₄ { s₄ with heap := s₄.heap.push { cls := .type "list", data := .seq (slicePick items (some (i : Int)) (some ((j : Int) + 1)) none) } } := .push
      have hD := Heap.get?_push_size s₄.heap (o := { cls := .type "list", data := .seq (slicePick items (some (i : Int)) (some ((j : Int) + 1)) none) }) rfl
      have hpick : slicePick items (some (i : Int)) (some ((j : Int) + 1)) none = ((items.toList.drop i).take (j + 1 - i)).toArray := slicePick_run items i (j + 1) (by omega) (by omega)
      rw [hpick] at k₅ hD ⊢
      refine spliced_none ⟨T₄.K.keeps k₅.ext, ?_⟩
      refine tags_call1 (T₄.K.keeps k₅.ext) hD rfl rfl (by simp; omega) fun h₆ b d' m k₆ fb fd t₆ => ?_
      have k06 := (k04.then k₅).then (Kp.of (tk := s₄.toks) k₆)
      exact h _ b d' _ m k06 (ext_fresh (k04.then k₅).ext fb) (ext_fresh (k04.then k₅).ext fd) t₆ (by simp)

theorem cut_call {base : Heap} {outer : List Env} {tw : Tok} {Q : Value → Shared → Prop} (T : Top0 w s.heap) (r : Room A (n + 8)) (B : Below A base outer s.heap) (t : TagsAt s.heap a d items nn) (hsz : items.size ≤ sizeLine) (tr : TagsR s.heap items.toList rows)
    (hlast : ∀ i, rows[i]? = some (nmr word) → i + 1 < rows.length) (hok : okR (nmr word)) (h : CutPost base outer word rows a d items s Q E) :
    wpAny (model prog w) A (call (.ref 347) [.str word tw, .ref a]) Q E s := by
  have hrl : items.size = rows.length := by simpa using tr.length
  refine call_fE (binds := [("name", .str word tw), ("tags", .ref a)]) (fn_remove T.K) T r B (fun _ _ _ _ => rfl) (locs rfl) (fun A' s₁ L r₁ k₁ hL hns T₁ B₁ => ?_)
  refine wpAny_execs_cons (asg2 r₁.hd (Call_Name rfl (nm_g T₁ (g_se w) (callWith_K T₁.K (k_k374 w) (spliced_more (nm_l hns rfl (spliced_more (nm_l hns rfl (spliced_none ⟨T₁.K, se_call T₁ r₁ B₁ (t.keeps k₁.ext) hsz (tr.keeps k₁.ext) hlast hok ?_⟩)))))))))
  unfold SePost
  unfold CutPost at h
  cases hres : seRes word rows with
  | mk st en =>
  rw [hres] at h
  cases st with
  | none => exact fun s₂ e R => leave_on B₁.stack rfl R fun s₃ R₃ => h s₃ e (R₃.pre k₁)
  | some i =>
    cases en with
    | none => exact fun s₂ e R => leave_on B₁.stack rfl R fun s₃ R₃ => h s₃ e (R₃.pre k₁)
    | some j =>
      obtain ⟨hij, hj⟩ := seRes_found hres
      intro s₂ x ti tj k₂ hx
      refine ⟨x, _, _, _, rfl, hx, k₂.ns0 hns, fun s₃ k₃ n₃ => ?_⟩
      have k03 : Kp [] s s₃ := (k₁.then k₂).loc1 k₃ hL
      have T₃ := k03.top T
      refine wpAny_execs_cons (wpAny_Delete (wpAny_deleteEach_cons (wpAny_delete_Subscript (nm_l n₃ rfl (ev_slice (nm_l n₃ rfl (nm_l n₃ rfl fun s₄ sl k₄ hsl => ?_)))))))
      have k04 := k03.then k₄
      have T₄ := k04.top T
      refine tg_delSlice T₄.K (t.keeps k04.ext) (i := i) (j := j + 1) hsl (.int i ti) (.int (j + 1) tj) (by omega) (by omega) hsz fun f hf => wpAny_deleteEach_nil ?_
      obtain ⟨m', t'⟩ := (t.keeps k04.ext).upd f
      have k₅ : Kp [a] s₄ { s₄ with heap := s₄.heap.update a (Obj.mapSeq f) } := .ofBut fun b o hb e => (Heap.get?_update_other _ _ (by simp at hb; exact Ne.symm hb)).trans e
      have t' : TagsAt ({ s₄ with heap := s₄.heap.update a (Obj.mapSeq f) } : Shared).heap a d (f items) m' := t'
      generalize ({ s₄ with heap := s₄.heap.update a (Obj.mapSeq f) } : Shared) = s₅ at k₅ t' ⊢
      have hLa : a ≠ L := fun q => by rw [← q, t.obj] at hL; cases hL
      have n₅ := k₅.ns (k₄.ns0 n₃) (ni (Ne.symm hLa))
      refine wpAny_execs_cons (wpAny_Return_some (nm_l n₅ rfl (h _ _ _ (k04.loc' k₅) t' (by rw [hf]))))

theorem handlers {base : Heap} {outer : List Env} {C e : Addr} {p₁ p₂ p₃ p₄ q₁ q₂ q₃ q₄ : Pos} {k₁ k₂ : Nat} {Q : Flow → Shared → Prop} (hfr : A.frames = some (env :: outer)) (hf : env.frame = some L) (TB : Top0 w base) (hC : C = 364 ∨ C = 44) (R : Raised base (env :: outer) C s₀ s e)
    (hq : ∀ s' t, Kb base s₀ s' → Q (.ret (.str (if C = 364 then "none" else "open") t)) s') (hk : env.scope.kind = .function := by rfl)
    (hx : env.kindOf "NotFoundException" = some .globalImplicit := by rfl) (hx' : env.kindOf "DXFStructureError" = some .globalImplicit := by rfl) (hg : env.globals = mainGlobals := by rfl) :
    wpAny (model prog w) A (noteFrame (.ref e) env) (fun _ s₂ => wpAny (model prog w) A (setFlight (.ref e) none) (fun _ s₃ => wpAny (model prog w) A (handleBy (.ref e) env
      [.ExceptHandler (some (.Name "NotFoundException" p₁)) none [.Return (some (.Constant (.str "none") k₁ p₂)) p₃] p₄, .ExceptHandler (some (.Name "DXFStructureError" q₁)) none [.Return (some (.Constant (.str "open") k₂ q₂)) q₃] q₄]) Q E s₃) E s₂) E s := by
  refine caught_note hfr hf R fun s' R' => ?_
  rcases hC with rfl | rfl
  · refine caught_this TB R' (g_nf w) (fun _ T => T.e1) (nf_sub_nf w) (fun s₁ E' kb => wpAny_execs_cons (wpAny_Return_some (ev_str fun s₂ t k => ?_))) hk hx hg
    have := hq s₂ t (kb.post k)
    rwa [if_pos rfl] at this
  · refine caught_next TB R' (g_nf w) (fun _ T => T.e1) (ds_sub_nf w) (caught_this TB R' (g_ds w) (fun _ T => T.e2) (ds_sub_ds w) (fun s₁ E' kb => wpAny_execs_cons (wpAny_Return_some (ev_str fun s₂ t k => ?_))) hk hx' hg) hk hx hg
    have := hq s₂ t (kb.post k)
    rwa [if_neg (by decide)] at this
end
end Mine

namespace Mine
section
variable {prog : Program} {w : World} {A : Around} {E : Value → Shared → Prop} {s : Shared} {env : Env}
variable {a L d : Addr} {word : Str} {rows : List Row} {s₀ : Shared} {items : Array Value} {n nn : Nat}

def TryPost (base : Heap) (word : Str) (rows : List Row) (s : Shared) (Q : Value → Shared → Prop) (found : Nat → Nat → Prop) : Prop :=
  match seRes word rows with
  | (none, _) => ∀ s' t, Kb base s s' → Q (.str "none" t) s'
  | (some _, none) => ∀ s' t, Kb base s s' → Q (.str "open" t) s'
  | (some i, some j) => found i j

theorem where_call {base : Heap} {outer : List Env} {tw : Tok} {Q : Value → Shared → Prop} (T : Top0 w s.heap) (r : Room A (n + 9)) (B : Below A base outer s.heap) (TB : Top0 w base) (t : TagsAt s.heap a d items nn) (hsz : items.size ≤ sizeLine) (tr : TagsR s.heap items.toList rows)
    (hlast : ∀ i, rows[i]? = some (nmr word) → i + 1 < rows.length) (hok : okR (nmr word)) (h : TryPost base word rows s Q fun i j => ∀ s' x t u, Kp [] s s' → s'.heap.get? x = some (tupO [.int (i : Int) t, .int ((j : Int) + 1) u]) → Q (.ref x) s') :
    wpAny (model prog w) A (call (.ref 414) [.str word tw, .ref a]) Q E s := by
  refine call_fE (binds := [("word", .str word tw), ("tags", .ref a)]) (fn_where T.K) T r B (fun _ _ _ _ => rfl) (locs rfl) (fun A' s₁ L r₁ k₁ hL hns T₁ B₁ => ?_)
  refine wpAny_execs_cons (wpAny_Try_except (wpAny_execs_cons (wpAny_Return_some (Call_Name rfl (nm_g T₁ (g_se w) (callWith_K T₁.K (k_k374 w) (spliced_more (nm_l hns rfl (spliced_more (nm_l hns rfl (spliced_none ⟨T₁.K, se_call T₁ (n := n + 1) r₁ B₁ (t.keeps k₁.ext) hsz (tr.keeps k₁.ext) hlast hok ?_⟩)))))))))))
  unfold SePost
  unfold TryPost at h
  cases hres : seRes word rows with
  | mk st en =>
  rw [hres] at h
  cases st with
  | none => exact fun s₂ e R => handlers B₁.stack rfl TB (.inl rfl) R fun s₃ t k₃ => h s₃ t (Kb.pre k₁ k₃)
  | some i =>
    cases en with
    | none => exact fun s₂ e R => handlers B₁.stack rfl TB (.inr rfl) R fun s₃ t k₃ => h s₃ t (Kb.pre k₁ k₃)
    | some j => exact fun s₂ x t u k₂ hx => h s₂ x t u (k₁.then k₂) hx

theorem lget_call {base : Heap} {outer : List Env} {tw : Tok} {Q : Value → Shared → Prop} (T : Top0 w s.heap) (r : Room A (n + 9)) (B : Below A base outer s.heap) (TB : Top0 w base) (t : TagsAt s.heap a d items nn) (hsz : items.size ≤ sizeLine) (tr : TagsR s.heap items.toList rows)
    (hlast : ∀ i, rows[i]? = some (nmr word) → i + 1 < rows.length) (hok : okR (nmr word)) (h : TryPost base word rows s Q fun i j => ∀ s' b d its m, Kp [] s s' → s.heap.get? b = none → s.heap.get? d = none → TagsAt s'.heap b d its m → its.toList = (items.toList.drop i).take (j + 1 - i) → Q (.ref b) s') :
    wpAny (model prog w) A (call (.ref 421) [.str word tw, .ref a]) Q E s := by
  refine call_fE (binds := [("word", .str word tw), ("tags", .ref a)]) (fn_get T.K) T r B (fun _ _ _ _ => rfl) (locs rfl) (fun A' s₁ L r₁ k₁ hL hns T₁ B₁ => ?_)
  refine wpAny_execs_cons (wpAny_Try_except (wpAny_execs_cons (wpAny_Return_some (Call_Name rfl (nm_g T₁ (g_named w) (callWith_K T₁.K (k_k354 w) (spliced_more (nm_l hns rfl (spliced_more (nm_l hns rfl (spliced_none ⟨T₁.K, get_call T₁ r₁ B₁ (t.keeps k₁.ext) hsz (tr.keeps k₁.ext) hlast hok ?_⟩)))))))))))
  unfold GetPost
  unfold TryPost at h
  cases hres : seRes word rows with
  | mk st en =>
  rw [hres] at h
  cases st with
  | none => exact fun s₂ e R => handlers B₁.stack rfl TB (.inl rfl) R fun s₃ t k₃ => h s₃ t (Kb.pre k₁ k₃)
  | some i =>
    cases en with
    | none => exact fun s₂ e R => handlers B₁.stack rfl TB (.inr rfl) R fun s₃ t k₃ => h s₃ t (Kb.pre k₁ k₃)
    | some j => exact fun s₂ b d its m k₂ fb fd t₂ e => h s₂ b d its m (k₁.then k₂) (k₁.fresh fb) (k₁.fresh fd) t₂ e

theorem lcut_call {base : Heap} {outer : List Env} {tw : Tok} {Q : Value → Shared → Prop} (T : Top0 w s.heap) (r : Room A (n + 9)) (B : Below A base outer s.heap) (TB : Top0 w base) (t : TagsAt s.heap a d items nn) (hsz : items.size ≤ sizeLine) (tr : TagsR s.heap items.toList rows)
    (hlast : ∀ i, rows[i]? = some (nmr word) → i + 1 < rows.length) (hok : okR (nmr word)) (h : TryPost base word rows s Q fun i j => ∀ s' its m, Kp [a] s s' → TagsAt s'.heap a d its m → its.toList = items.toList.take i ++ items.toList.drop (j + 1) → Q (.ref a) s') :
    wpAny (model prog w) A (call (.ref 428) [.str word tw, .ref a]) Q E s := by
  refine call_fE (binds := [("word", .str word tw), ("tags", .ref a)]) (fn_cut T.K) T r B (fun _ _ _ _ => rfl) (locs rfl) (fun A' s₁ L r₁ k₁ hL hns T₁ B₁ => ?_)
  refine wpAny_execs_cons (wpAny_Try_except (wpAny_execs_cons (wpAny_Return_some (Call_Name rfl (nm_g T₁ (g_remove w) (callWith_K T₁.K (k_k347 w) (spliced_more (nm_l hns rfl (spliced_more (nm_l hns rfl (spliced_none ⟨T₁.K, cut_call T₁ r₁ B₁ (t.keeps k₁.ext) hsz (tr.keeps k₁.ext) hlast hok ?_⟩)))))))))))
  unfold CutPost
  unfold TryPost at h
  cases hres : seRes word rows with
  | mk st en =>
  rw [hres] at h
  cases st with
  | none => exact fun s₂ e R => handlers B₁.stack rfl TB (.inl rfl) R fun s₃ t k₃ => h s₃ t (Kb.pre k₁ k₃)
  | some i =>
    cases en with
    | none => exact fun s₂ e R => handlers B₁.stack rfl TB (.inr rfl) R fun s₃ t k₃ => h s₃ t (Kb.pre k₁ k₃)
    | some j => exact fun s₂ its m k₂ t₂ e => h s₂ its m (k₁.loc' k₂) t₂ e
end
end Mine

namespace Mine

def Ls (h : Heap) (a : Addr) (ys : List Value) : Prop := ∃ c, h.get? a = some (lstO (List.toArray ys) c)
theorem Ls.keeps {h h' : Heap} {a : Addr} {ys : List Value} (x : Ls h a ys) (k : Ext h h') : Ls h' a ys := x.imp fun _ e => k _ _ e
theorem Ls.is {h : Heap} {a : Addr} {ys : List Value} (x : Ls h a ys) : h.IsList a (List.toArray ys) := let ⟨c, e⟩ := x; ⟨_, e, rfl, c, rfl⟩
theorem Ls.but {h h' : Heap} {a : Addr} {ys : List Value} {l : List Addr} (x : Ls h a ys) (k : ∀ b o, b ∉ l → h.get? b = some o → h'.get? b = some o) (ha : a ∉ l) : Ls h' a ys := x.imp fun _ e => k _ _ ha e

section
variable {prog : Program} {w : World} {A : Around} {E : Value → Shared → Prop} {s : Shared} {env : Env}

theorem sub_tail {value slice : Expr} {o i : Value} {T id : String} {ops : List Value} {Q : Value → Shared → Prop} (hT : s.TypeIs o T) (hl : typeLookup (.type T) "__getitem__" = pure (some (.builtin id))) (h : wpAny (model prog w) A (getItem o i) Q E s)
    (hs : subscripted slice false o i = operate ops (getItem o i)) : wpAny (model prog w) A (subscriptTail value slice o i) Q E s := by
  unfold subscriptTail
  refine wpAny_bind ?_
  rw [getitemInPython_of_ne hT.not_modules]
  refine wpAny_bind (wpAny_specialOf hT hl ?_)
  refine wpAny_pure ?_
  rw [hs]
  exact wpAny_bind (wpAny_operating (wpAny_mono h (fun r s₃ h₃ => wpAny_bind (wpAny_letTemporaryGo (wpAny_pure h₃))) fun _ _ x => x))

theorem ls_len {a : Addr} {ys : List Value} {Q : Value → Shared → Prop} (l : Ls s.heap a ys) (hsz : ys.length ≤ sizeLine) (h : ∀ s' u, Kp [] s s' → Q (.int ys.length u) s') : wpAny (model prog w) A (call (.builtin "len") [.ref a]) Q E s := by
  have := sizeLine_lt
  refine call_len_list l.is (by simp; omega) ?_
  simpa using h _ _ (.tok (tk := s.toks + 1 + 1))
theorem ls_at {value slice : Expr} {a : Addr} {ys : List Value} {i : Nat} {u : Tok} {x : Value} {Q : Value → Shared → Prop} (l : Ls s.heap a ys) (hsz : ys.length ≤ sizeLine) (hx : ys[i]? = some x) (h : Q x s)
    (hs : subscripted slice false (.ref a) (.int i u) = operate [.ref a, .int i u] (getItem (.ref a) (.int i u)) := by with_unfolding_all rfl) :
    wpAny (model prog w) A (subscriptTail value slice (.ref a) (.int i u)) Q E s := by
  have := sizeLine_lt
  have hlt : i < ys.length := (List.getElem?_eq_some_iff.mp hx).1
  exact sub_tail l.is.typeIs slot_list_getitem.lookup (wpAny_getItem_list l.is (by omega) (by omega) (by simpa using hx) h) hs
theorem ls_true {a : Addr} {ys : List Value} {Q : Bool → Shared → Prop} (l : Ls s.heap a ys) (hsz : ys.length ≤ sizeLine) (h : ∀ s', Kp [] s s' → Q (!ys.isEmpty) s') : wpAny (model prog w) A (truthy (.ref a)) Q E s := by
  have := sizeLine_lt
  refine wpAny_truthy_list l.is (by simp; omega) ?_
  simpa using h _ (.tok (tk := s.toks + 1 + 1))
theorem ls_add {a b : Addr} {ys zs : List Value} {Q : Value → Shared → Prop} (l : Ls s.heap a ys) (l' : Ls s.heap b zs) (hsz : ys.length + zs.length ≤ sizeLine)
    (h : ∀ s' D, Kp [] s s' → s.heap.get? D = none → Ls s'.heap D (ys ++ zs) → Q (.ref D) s') : wpAny (model prog w) A (binaryOp .Add (.ref a) (.ref b)) Q E s := by
  obtain ⟨c, e⟩ := l
  obtain ⟨c', e'⟩ := l'
  refine P.add_list e e' ?_ (by simpa using hsz)
  exact h _ _ .push fresh_size ⟨_, by simpa using Heap.get?_push_size s.heap (o := { cls := .type "list", data := .seq (ys.toArray ++ zs.toArray) }) rfl⟩

theorem ls_slice {value slice : Expr} {a sl : Addr} {ys : List Value} {vl vu : Value} {lo hi : Option Int} {zs : List Value} {Q : Value → Shared → Prop} (l : Ls s.heap a ys) (hsz : ys.length ≤ sizeLine) (hs : s.heap.IsSliceOf sl vl vu .none) (pl : IsPart vl lo) (pu : IsPart vu hi)
    (hz : slicePick ys.toArray lo hi none = zs.toArray) (h : ∀ s' D, Kp [] s s' → s.heap.get? D = none → Ls s'.heap D zs → Q (.ref D) s')
    (hsub : ∃ ops, subscripted slice false (.ref a) (.ref sl) = operate ops (getItem (.ref a) (.ref sl)) := by exact ⟨_, by with_unfolding_all rfl⟩) :
    wpAny (model prog w) A (subscriptTail value slice (.ref a) (.ref sl)) Q E s := by
  obtain ⟨ops, hsub⟩ := hsub
  refine sub_tail l.is.typeIs slot_list_getitem.lookup (wpAny_getItem_list_slice l.is hs pl pu .none (by simp) ?_ (by simpa using hsz)) hsub
  rw [hz]
  exact h _ _ .push fresh_size ⟨_, Heap.get?_push_size _ rfl⟩

/-- len(e) -/
theorem ev_lenL {e : Expr} {p₁ p₃ : Pos} {Q : Value → Shared → Prop} (T : Top0 w s.heap)
    (h : wpAny (model prog w) A (eval e env) (fun v s₁ => ∃ a ys, v = .ref a ∧ Ls s₁.heap a ys ∧ ys.length ≤ sizeLine ∧ ∀ s' u, Kp [] s₁ s' → Q (.int ys.length u) s') E s) (hk : env.scope.kind = .function := by rfl)
    (hx : env.kindOf "len" = some .globalImplicit := by rfl) (hg : env.globals = mainGlobals := by rfl) (hb : env.builtins = builtinsNs := by rfl) (hs : starEach [e] env = (false, eval e env) :: starEach [] env := by rfl) :
    wpAny (model prog w) A (eval (.Call (.Name "len" p₁) [e] [] p₃) env) Q E s := by
  refine Call_Name rfl (nm_b T (g_len w) PyProof.Rows.Boot.«len» (callWith_method1 (first := []) (spliced_more (wpAny_mono h (fun v s₁ h₁ => ?_) fun _ _ e => e) hs) hs rfl) (by decide) hk hx hg hb)
  obtain ⟨a, ys, rfl, l, hsz, hq⟩ := h₁
  exact spliced_none (ls_len l hsz hq)

/-- a name of an outer frame's cell -/
theorem nm_f {M : Model} {x : Str} {pos : Pos} {c : Addr} {v : Value} {Q : Value → Shared → Prop} (hc : env.cells.lookup x = some c) (hv : s.heap.IsCell c (some v)) (h : Q v s) (hk : env.scope.kind = .function := by rfl)
    (hx : env.kindOf x = some .free := by rfl) (hb : (x == ("__debug__" : Str)) = false := by decide) (hn : (x == ("__classdict__" : Str)) = false := by decide) : wpAny M A (eval (.Name x pos) env) Q E s := wpAny_Name (wpAny_loadName_free hk hx hc hv h hn) hb
theorem nm_c {M : Model} {x : Str} {pos : Pos} {c : Addr} {v : Value} {Q : Value → Shared → Prop} (hc : env.cells.lookup x = some c) (hv : s.heap.IsCell c (some v)) (h : Q v s) (hk : env.scope.kind = .function := by rfl)
    (hx : env.kindOf x = some .cell := by rfl) (hb : (x == ("__debug__" : Str)) = false := by decide) : wpAny M A (eval (.Name x pos) env) Q E s := wpAny_Name (wpAny_loadName_cell hk hx hc hv h) hb

abbrev dueCl (L : Addr) : List (Str × Addr) := [("word", L + 1 + 1), ("rows", L + 1)]
theorem due_cells (L : Addr) : cellsFrom (L + 1) (scopeOfS (topSt 21)).names [] = dueCl L := rfl
abbrev dueEnv (L : Addr) : Env := { scope := scopeOfS (topSt 21), locals := L, globals := mainGlobals, cells := dueCl L, qual := "_law_due" ++ ".<locals>.", func := some 407, code := .ref 406, frame := some L, builtins := builtinsNs }

theorem call_dueX {n : Nat} {rv wv : Value} {Q : Value → Shared → Prop} (T : Top0 w s.heap) (r : Room A (n + 1))
    (h : ∀ A' s' L m, Room A' n → Kp [] s s' → s.heap.get? L = none → s'.heap.Ns L m → s'.heap.IsCell (L + 1) (some rv) → s'.heap.IsCell (L + 1 + 1) (some wv) → Top0 w s'.heap →
      wpAny (model prog w) A' (execs (bodyOfS (topSt 21)) (dueEnv L)) (fun fl s' => Q (match fl with | .ret v => v | _ => .none) s') (fun _ _ => False) s') :
    wpAny (model prog w) A (call (.ref 407) [rv, wv]) Q E s := by
  obtain ⟨⟨oc, od, sl, name, doc, pm, ct, ho⟩, hcd⟩ := fn_due T.K
  refine wpAny_call (codeAny_call_cells r.d ho rfl T.lim hcd rfl (binds := [("rows", rv), ("word", wv)]) rfl rfl (by intro x hx; simp at hx; rcases hx with rfl | rfl <;> exact .inr ⟨rfl, rfl⟩) (fun s₁ X => ?_) rfl rfl rfl)
  obtain ⟨h₁, tk, rfl, k⟩ := X.done
  refine wpAny_mono (h _ ⟨h₁, s.gens, s.drawn, tk, s.os⟩ s.heap.objs.size _ (r.deeper _) (Kp.of k) fresh_size X.toInCall.ns ?_ ?_ (T.keeps k)) (fun _ _ e => e) fun _ _ e => e.elim
  · exact X.cell "rows" (s.heap.objs.size + 1) rfl
  · exact X.cell "word" (s.heap.objs.size + 1 + 1) rfl
end
end Mine

namespace Mine

theorem Kp.loc'' {s s₁ s₂ : Shared} {I L : Addr} (k : Kp [] s s₁) (k' : Kp [I, L] s₁ s₂) (hI : s.heap.get? I = none) : Kp [L] s s₂ :=
  ⟨k'.gens.trans k.gens, k'.drawn.trans k.drawn, k'.os.trans k.os, fun b o hb e => k'.keep b o (by simp only [List.mem_cons, List.not_mem_nil, or_false, not_or] at hb ⊢; exact ⟨fun q => by rw [q, hI] at e; (cases e), hb⟩) (k.ext b o e)⟩
def isStart (word : Str) (rows : List Row) (k : Nat) : Bool := decide (rows[k]? = some (nmr word)) && decide (rows[k + 1]? = some opn)
def placesL (word : Str) (rows : List Row) : List Nat := (List.range (rows.length - 1)).filter (isStart word rows)
def leftAt (rows : List Row) (k : Nat) : Option Row := match rows[k]? with
  | some r => if r = opn ∨ r = clz then some ((k : Int), r.2) else none
  | none => none
def leftL (rows : List Row) (a n : Nat) : List Row := (List.range n).filterMap fun i => leftAt rows (a + i)

theorem filterMap_range_succ {α : Type} (f : Nat → Option α) (n : Nat) : (List.range (n + 1)).filterMap f = (List.range n).filterMap f ++ (f n).toList := by
  rw [List.range_succ, List.filterMap_append]
  simp only [List.filterMap_cons, List.filterMap_nil]
  cases f n <;> rfl

def IntR (v : Value) (k : Nat) : Prop := ∃ t, v = .int (k : Int) t

section
variable {prog : Program} {w : World} {A : Around} {E : Value → Shared → Prop} {s : Shared} {env : Env}

theorem range_iter0 {n : Int} {t : Tok} {Q : Value → Shared → Prop} (hn : n < 2 ^ 60) (hl : -1 ≤ n) (h : ∀ s' I, Kp [] s s' → s.heap.get? I = none → IsRangeIter s'.heap I 0 (n.toNat : Int) 1 → Q (.ref I) s') :
    wpAny (model prog w) A (call (.type "range") [.int n t]) (fun x s₁ => wpAny (model prog w) A (pyIter x) Q E s₁) E s := by
  refine call_range_1 ?_
  have r := IsRange.new s.heap 0 n 1 s.toks t (s.toks + 1)
  refine wpAny_pyIter_range (s := { s with heap := s.heap.push _, toks := s.toks + 1 + 1 }) r (small_one (by decide) (by decide) (by omega) (by omega)) ?_
  have k : Kp [] s { s with heap := (s.heap.push { cls := .type "range", data := .fields #[.int 0 s.toks, .int n t, .int 1 (s.toks + 1)] }).push { cls := .type "range_iterator", data := .fields #[rawInt 0, rawInt (Builtin.Range.rangeSize 0 n 1), rawInt 1] }, toks := s.toks + 1 + 1 } :=
    .of fun b o e => Heap.get?_push_of_some _ (Heap.get?_push_of_some _ e)
  refine h _ _ k ?_ ?_
  · refine fresh_ge ?_
    show s.heap.objs.size ≤ (s.heap.push _).objs.size
    rw [Heap.size_push]; omega
  · have e := Heap.get?_push_size (s.heap.push { cls := .type "range", data := .fields #[.int 0 s.toks, .int n t, .int 1 (s.toks + 1)] }) (o := { cls := .type "range_iterator", data := .fields #[rawInt 0, rawInt (Builtin.Range.rangeSize 0 n 1), rawInt 1] }) rfl
    have e2 : Builtin.Range.rangeSize 0 n 1 = (n.toNat : Int) := by rw [rangeSize_one]; split <;> omega
    rw [e2] at e ⊢
    exact e

theorem one_if {M : Model} {c : Expr} {cenv : Env} {Q : Bool → Shared → Prop} (h : wpAny M A (isTrue c cenv (eval c cenv)) Q E s) :
    wpAny M A (forIn [c] true fun c r => if r = true then do let ok ← isTrue c cenv (eval c cenv); pure (ForInStep.yield ok) else pure (ForInStep.yield r)) Q E s := by
  refine wpAny_bind ?_
  dsimp only
  rw [if_pos rfl]
  exact wpAny_bind (wpAny_mono h (fun b s' hb => wpAny_pure (wpAny_pure hb)) fun _ _ e => e)

variable {word : Str} {rows : List Row} {ys : List Value} {s₀ : Shared} {L R : Addr} {n : Nat} {tw : Tok}

def scopeOfC : Expr → Scope
  | .ListComp _ _ sc _ => sc
  | _ => default
def valueOfS : Stmt → Expr
  | .Assign _ e _ => e
  | _ => .Constant .none 0 default
def placesComp : Expr := valueOfS ((bodyOfS (topSt 21)).getD 0 (.Pass default))

/-- what the frame of _law_due has over all -/
structure DueAt (w : World) (s₀ : Shared) (L R : Addr) (ys : List Value) (rows : List Row) (word : Str) (tw : Tok) (h : Heap) : Prop where
  T : Top0 w h
  ls : Ls h R ys
  rr : RowsR h ys rows
  c1 : h.IsCell (L + 1) (some (.ref R))
  c2 : h.IsCell (L + 1 + 1) (some (.str word tw))
theorem DueAt.keeps {h h' : Heap} (D : DueAt w s₀ L R ys rows word tw h) (k : Ext h h') : DueAt w s₀ L R ys rows word tw h' := ⟨D.T.keeps k, D.ls.keeps k, D.rr.keeps k, D.c1.keeps k, D.c2.keeps k⟩

theorem due_places {E : Value → Shared → Prop} {Q : Flow → Shared → Prop} {m : Str → Option Value} {B₀ : Heap} (r : Room A (n + 6)) (hsz : ys.length ≤ sizeLine) (hok : okR (nmr word)) (D : DueAt w s₀ L R ys rows word tw B₀) (hB : Ext B₀ s.heap) (hL : B₀.get? L = none) (hn : s.heap.Ns L m)
    (h : ∀ s' P ps m', Kp [L] s s' → s.heap.get? P = none → Ls s'.heap P ps → Paired IntR ps (placesL word rows) → s'.heap.Ns L m' → m' "places" = some (.ref P) → Q .next s') :
    wpAny (model prog w) A (exec ((bodyOfS (topSt 21)).getD 0 (.Pass default)) (dueEnv L)) Q E s := by
  have hlen : ys.length = rows.length := D.rr.length
  have Ds := D.keeps hB
  have hlt := sizeLine_lt
  refine comp_assign (cl := dueCl L) rfl rfl (by decide) rfl (by decide) rfl rfl rfl ?_
  refine Call_Name rfl (nm_b Ds.T (g_range w) PyProof.Rows.Boot.«range» (PyProof.Rows.callWith_type1 (spliced_more (wpAny_BinOp (ev_lenL Ds.T (nm_c rfl Ds.c1 ⟨R, ys, rfl, Ds.ls, hsz, fun s₁ u₁ k₁ => ev_int fun s₂ u₂ k₂ => sub_i fun s₃ u₃ k₃ => spliced_none ?_⟩))))))
  have k03 := (k₁.then k₂).then k₃
  refine range_iter0 (by omega) (by omega) fun s₄ I k₄ hI hit => ?_
  have k04 := k03.then k₄
  have hIB : B₀.get? I = none := ext_fresh (ext_tr hB k03.ext) hI
  have hIL : L ≠ I := Ne.symm (Ns.ne (k03.ns0 hn) hI)
  refine ⟨m, k04.ns0 hn, fun I' e => by cases e; exact Ne.symm hIL, I, [I], rows.length - 1, _, _, B₀, fun i xs B => Paired IntR xs ((List.range i).filter (isStart word rows)), rfl, Walks.range r.hd I 0 1 (rows.length - 1), by omega, ?_, ?_, fun i h st => ⟨_, st⟩, ext_tr hB k04.ext, hIB, .nil, ?_, ?_⟩
  · have e : (((ys.length : Int) - 1).toNat : Int) = ((rows.length - 1 : Nat) : Int) := by omega
    rw [e] at hit
    simpa using hit
  · intro b hb
    rw [List.mem_singleton.mp hb]
    exact Heap.lt_size hit
  · rintro C Dd hC₀ hD₀ i v s₅ m₁ xs B hi ⟨tv, rfl⟩ hB' hBs hoff hDs hIs hC hx hJ
    have Dk := D.keeps (ext_tr hB' hBs)
    refine one_if ?_
    have ev : (Value.int (0 + (i : Int) * 1) tv) = .int i tv := by congr 1; omega
    rw [ev] at hx
    obtain ⟨v, hv, hr⟩ := Paired.get Dk.rr (show rows[i]? = some rows[i] by simp)
    have hri : rows[i]? = some rows[i] := by simp
    have T₅ := Dk.T
    refine wpAny_mono (Q := fun ok s₆ => Kp [] s₅ s₆ ∧ ok = isStart word rows i) ?_ (fun ok s₆ h₆ => ?_) fun _ _ e => e
    · refine isTrue_and (wpAny_isTrue_Compare1 (Subscript_ (nm_c rfl Dk.c1 (nm_l hC hx (ls_at Dk.ls hsz hv (ev_tup2 (ev_int fun s₆ u₆ k₆ => nm_c rfl (Dk.c2.keeps k₆.ext) fun s₇ p k₇ fp hp => ?_)))))))
      have k57 := k₆.then k₇
      refine rowEq (k57.top T₅) (n := n + 2) r (.inl (hr.keeps k57.ext)) ⟨hok, p, _, _, _, _, rfl, ⟨_, rfl⟩, ⟨_, rfl⟩, hp, rfl, rfl⟩ fun s₈ k₈ => wpAny_truthy_bool ?_
      have k58 := k57.then k₈
      by_cases hw : rows[i] = nmr word
      · rw [if_pos (by simp [hw])]
        have hri' : rows[i + 1]? = some rows[i + 1] := by simp
        obtain ⟨v', hv', hr'⟩ := Paired.get Dk.rr (show rows[i + 1]? = some rows[i + 1] by simp)
        refine isTrue_and (wpAny_isTrue_Compare1 (Subscript_ (nm_c rfl (Dk.c1.keeps k58.ext) (wpAny_BinOp (nm_l (k58.ns0 hC) hx (ev_int fun s₉ u₉ k₉ => add_i fun s₁₀ u₁₀ k₁₀ => ?_))))))
        have k510 := (k58.then k₉).then k₁₀
        refine ls_at (i := i + 1) (Dk.ls.keeps k510.ext) hsz hv' (ev_tup2 (ev_int fun s₁₁ u₁₁ k₁₁ => ev_str fun s₁₂ u₁₂ k₁₂ s₁₃ p' k₁₃ fp' hp' => ?_))
        have k513 := ((k510.then k₁₁).then k₁₂).then k₁₃
        refine rowEq (k513.top T₅) (n := n + 2) r (.inl (hr'.keeps k513.ext)) (r' := opn) ⟨by unfold okR; decide +kernel, p', _, _, _, _, rfl, ⟨_, rfl⟩, ⟨_, rfl⟩, hp', rfl, rfl⟩ fun s₁₄ k₁₄ => wpAny_truthy_bool ?_
        by_cases ho : rows[i + 1] = opn
        · rw [if_pos (by simp [ho])]
          refine isTrue_and_nil ⟨k513.then k₁₄, ?_⟩
          unfold isStart
          rw [hri, hri', hw, ho]
          simp
        · rw [if_neg (by simp [ho])]
          refine ⟨k513.then k₁₄, ?_⟩
          unfold isStart
          rw [hri, hri', hw]
          simp [ho]
      · rw [if_neg (by simp [hw])]
        refine ⟨k58, ?_⟩
        unfold isStart
        rw [hri]
        simp [hw]
    · obtain ⟨k₆, rfl⟩ := h₆
      refine ⟨k₆, ?_⟩
      have es : (List.range (i + 1)).filter (isStart word rows) = (List.range i).filter (isStart word rows) ++ (if isStart word rows i = true then [i] else []) := by
        rw [List.range_succ, List.filter_append]
        by_cases hb : isStart word rows i = true
        · rw [if_pos hb, List.filter_cons_of_pos hb]; rfl
        · rw [if_neg hb, List.filter_cons_of_neg hb]; rfl
      by_cases hb : isStart word rows i = true
      · rw [if_pos hb] at es ⊢
        refine nm_l (k₆.ns0 hC) hx ⟨.refl, fun _ _ _ => ?_⟩
        show Paired IntR _ _
        rw [es]
        exact Paired.snoc hJ ⟨tv, rfl⟩
      · rw [if_neg hb] at es ⊢
        intro _ _
        show Paired IntR _ _
        rw [es]
        simpa using hJ
  · intro s' P c xs B k hP hP' hB' hBs hPB hJ hns
    have hIf : s.heap.get? I = none := ext_fresh k03.ext hI
    refine h s' P xs _ (k04.loc'' k hIf) (k04.fresh hP) ⟨c, hP'⟩ hJ hns (if_pos rfl)
end
end Mine

namespace Mine

section
variable {prog : Program} {w : World} {A : Around} {s : Shared} {env : Env}
variable {word : Str} {rows : List Row} {ys : List Value} {s₀ : Shared} {L R : Addr} {n : Nat} {tw : Tok}

theorem okR_of {r r' : Row} (h : okR r) (e : r.2 = r'.2) : okR r' := by unfold okR at *; rw [← e]; exact h

theorem due_left {E : Value → Shared → Prop} {Q : Flow → Shared → Prop} {m : Str → Option Value} {B₀ : Heap} {P : Addr} {ps : List Value} {pl : List Nat} {p0 : Nat} (r : Room A (n + 6)) (hsz : ys.length ≤ sizeLine) (D : DueAt w s₀ L R ys rows word tw B₀) (hB : Ext B₀ s.heap) (hL : B₀.get? L = none) (hn : s.heap.Ns L m)
    (hm : m "places" = some (.ref P)) (hP : Ls B₀ P ps) (hps : Paired IntR ps (p0 :: pl)) (hp0 : p0 + 1 ≤ rows.length) (hpl : pl.length + 1 ≤ rows.length)
    (h : ∀ s' F fs, Kp [L] s s' → s.heap.get? F = none → Ls s'.heap F fs → RowsR s'.heap fs (leftL rows (p0 + 1) (rows.length - (p0 + 1))) → s'.heap.Ns L (fun z => if z = ("left" : Str) then some (.ref F) else m z) → Q .next s') :
    wpAny (model prog w) A (exec ((bodyOfS (topSt 21)).getD 2 (.Pass default)) (dueEnv L)) Q E s := by
  have hlen : ys.length = rows.length := D.rr.length
  have Ds := D.keeps hB
  have hlt := sizeLine_lt
  have hpsl : ps.length = pl.length + 1 := hps.length
  obtain ⟨pv, hpv, tp, rfl⟩ := Paired.get hps (show (p0 :: pl)[0]? = some p0 from rfl)
  refine comp_assign (cl := [("rows", L + 1)]) rfl rfl (by decide) rfl (by decide) rfl rfl rfl ?_
  refine Call_Name rfl (nm_b Ds.T (g_range w) PyProof.Rows.Boot.«range» (PyProof.Rows.callWith_type1 (spliced_more (wpAny_BinOp (Subscript_ (nm_l hn hm (ev_int fun s₁ u₁ k₁ => ls_at (i := 0) ((hP.keeps hB).keeps k₁.ext) (by omega) hpv (ev_int fun s₂ u₂ k₂ => add_i fun s₃ u₃ k₃ => ?_))))))))
  have k03 := (k₁.then k₂).then k₃
  refine spliced_more (ev_lenL (k03.top Ds.T) (nm_c rfl (Ds.c1.keeps k03.ext) ⟨R, ys, rfl, Ds.ls.keeps k03.ext, hsz, fun s₄ u₄ k₄ => spliced_none ?_⟩))
  refine range_iter2 (a := p0 + 1) (b := ys.length) (by omega) (by omega) fun s₅ I k₅ hI hit => ?_
  have k04 := k03.then k₄
  have k05 := k04.then k₅
  have hIB : B₀.get? I = none := ext_fresh (ext_tr hB k04.ext) hI
  have hIL : L ≠ I := Ne.symm (Ns.ne (k04.ns0 hn) hI)
  rw [hlen] at hit
  have eB : Ext B₀ (hideAll s₅.heap [I]) := fun b o e => hideAll_get _ (k05.ext _ _ (hB _ _ e)) (fun hm => by rw [List.mem_singleton.mp hm, hIB] at e; cases e)
  have DB := D.keeps eB
  have hLB : ∃ o, (hideAll s₅.heap [I]).get? L = some o := by
    obtain ⟨o, _, _, e, _⟩ := k05.ns0 hn
    exact ⟨o, hideAll_get _ e (ni hIL)⟩
  refine ⟨m, k05.ns0 hn, fun I' e => by cases e; exact Ne.symm hIL, I, [I], rows.length - (p0 + 1), _, _, hideAll s₅.heap [I], fun i xs B => RowsR (hideAll B [L]) xs (leftL rows (p0 + 1) i), rfl, Walks.range r.hd I ((p0 + 1 : Nat) : Int) 1 (rows.length - (p0 + 1)), by omega, ?_, ?_, fun i h st => ⟨_, st⟩, fun b o e => of_hideAll _ e, hideAll_none _ (by simp), .nil, ?_, ?_⟩
  · simpa using hit
  · intro b hb
    rw [List.mem_singleton.mp hb]
    exact Heap.lt_size hit
  · rintro C Dd hC₀ hD₀ i v s₆ m₁ xs B hi ⟨tv, rfl⟩ hB' hBs hoff hDs hIs hC hx hJ
    have Dk := DB.keeps (ext_tr hB' hBs)
    have hL₆ : ∃ o, s₆.heap.get? L = some o := hLB.imp fun o e => ext_tr hB' hBs _ _ e
    refine one_if ?_
    have ev : (Value.int (((p0 + 1 : Nat) : Int) + (i : Int) * 1) tv) = .int ((p0 + 1 + i : Nat) : Int) tv := by congr 1; omega
    rw [ev] at hx
    have hj : p0 + 1 + i < rows.length := by omega
    obtain ⟨v, hv, hr⟩ := Paired.get Dk.rr (show rows[p0 + 1 + i]? = some rows[p0 + 1 + i] by simp [hj])
    have hri : rows[p0 + 1 + i]? = some rows[p0 + 1 + i] := by simp [hj]
    have T₆ := Dk.T
    refine wpAny_mono (Q := fun ok s₇ => Kp [] s₆ s₇ ∧ ok = (leftAt rows (p0 + 1 + i)).isSome) ?_ (fun ok s₇ h₇ => ?_) fun _ _ e => e
    · refine isTrue_or (wpAny_isTrue_Compare1 (Subscript_ (nm_c rfl Dk.c1 (nm_l hC hx (ls_at Dk.ls hsz hv (ev_tup2 (ev_int fun s₇ u₇ k₇ => ev_str fun s₈ u₈ k₈ s₉ p k₉ fp hp => ?_)))))))
      have k69 := (k₇.then k₈).then k₉
      refine rowEq (k69.top T₆) (n := n + 2) r (.inl (hr.keeps k69.ext)) (r' := opn) ⟨by unfold okR; decide +kernel, p, _, _, _, _, rfl, ⟨_, rfl⟩, ⟨_, rfl⟩, hp, rfl, rfl⟩ fun s₁₀ k₁₀ => wpAny_truthy_bool ?_
      have k610 := k69.then k₁₀
      by_cases ho : rows[p0 + 1 + i] = opn
      · rw [if_pos (by simp [ho])]
        refine ⟨k610, ?_⟩
        unfold leftAt
        rw [hri]
        simp [ho]
      · rw [if_neg (by simp [ho])]
        refine isTrue_or (wpAny_isTrue_Compare1 (Subscript_ (nm_c rfl (Dk.c1.keeps k610.ext) (nm_l (k610.ns0 hC) hx (ls_at (Dk.ls.keeps k610.ext) hsz hv (ev_tup2 (ev_int fun s₁₁ u₁₁ k₁₁ => ev_str fun s₁₂ u₁₂ k₁₂ s₁₃ p' k₁₃ fp' hp' => ?_)))))))
        have k613 := ((k610.then k₁₁).then k₁₂).then k₁₃
        refine rowEq (k613.top T₆) (n := n + 2) r (.inl (hr.keeps k613.ext)) (r' := clz) ⟨by unfold okR; decide +kernel, p', _, _, _, _, rfl, ⟨_, rfl⟩, ⟨_, rfl⟩, hp', rfl, rfl⟩ fun s₁₄ k₁₄ => wpAny_truthy_bool ?_
        by_cases hc : rows[p0 + 1 + i] = clz
        · rw [if_pos (by simp [hc])]
          refine ⟨k613.then k₁₄, ?_⟩
          unfold leftAt
          rw [hri]
          simp [hc]
        · rw [if_neg (by simp [hc])]
          refine isTrue_or_nil ⟨k613.then k₁₄, ?_⟩
          unfold leftAt
          rw [hri]
          simp [ho, hc]
    · obtain ⟨k₇, rfl⟩ := h₇
      refine ⟨k₇, ?_⟩
      have es : leftL rows (p0 + 1) (i + 1) = leftL rows (p0 + 1) i ++ (leftAt rows (p0 + 1 + i)).toList := filterMap_range_succ (fun i => leftAt rows (p0 + 1 + i)) i
      have oldJ : ∀ B', Ext B B' → RowsR (hideAll B' [L]) xs (leftL rows (p0 + 1) i) := fun B' e => RowsR.keeps hJ fun b o q => hideAll_get _ (e _ _ (of_hideAll _ q)) (fun hm => by rw [hideAll_none _ hm] at q; cases q)
      cases hla : leftAt rows (p0 + 1 + i) with
      | none =>
        rw [hla] at es
        simp only [Option.isSome_none, Bool.false_eq_true, if_false]
        intro B' e
        show RowsR _ _ _
        rw [es]
        simpa using oldJ B' e
      | some row =>
        rw [hla] at es
        simp only [Option.isSome_some, if_true]
        have e2 : row = (((p0 + 1 + i : Nat) : Int), (rows[p0 + 1 + i]).2) := by
          unfold leftAt at hla
          rw [hri] at hla
          split at hla
          · rename_i r' q
            cases q
            split at hla
            · cases hla; rfl
            · cases hla
          · cases hla
        refine ev_tup2 (nm_l (k₇.ns0 hC) hx (Subscript_ (Subscript_ (nm_c rfl (Dk.c1.keeps k₇.ext) (nm_l (k₇.ns0 hC) hx (ls_at (Dk.ls.keeps k₇.ext) hsz hv (ev_int fun s₈ u₈ k₈ => ?_)))))))
        refine rowAt ((k₇.then k₈).top T₆) (n := n + 2) r (.inl (hr.keeps (k₇.then k₈).ext)) (.inr rfl) fun y s₉ k₉ _ hy s₁₀ q k₁₀ fq hq => ?_
        have k710 := (k₈.then k₉).then k₁₀
        refine ⟨k710, fun B' e hbut => ?_⟩
        show RowsR _ _ _
        rw [es]
        have nb : ∀ z, (∃ o, s₆.heap.get? z = some o) → q ≠ z := fun z ⟨o, ez⟩ hq' => by have := ((k₇.then k₈).then k₉).ext _ _ ez; rw [← hq', fq] at this; cases this
        obtain ⟨oC, _, _, eC, _⟩ := id hC
        have tq : B'.get? q = some (tupO [.int ((p0 + 1 + i : Nat) : Int) tv, y]) := hbut _ _ (nb _ ⟨_, eC⟩) (nb _ hDs) (nb _ hIs) hq
        have tq' : (hideAll B' [L]).get? q = some (tupO [.int ((p0 + 1 + i : Nat) : Int) tv, y]) := hideAll_get _ tq (by
          simp only [List.mem_singleton]
          exact nb L hL₆)
        refine Paired.snoc (oldJ B' e) ⟨?_, q, _, _, _, _, rfl, ?_, ?_, tq', rfl, rfl⟩
        · rw [e2]; exact okR_of hr.ok rfl
        · rw [e2]; exact ⟨tv, rfl⟩
        · rw [e2]; exact hy rfl
  · intro s' F c xs B k hF hF' hB' hBs hFB hJ hns
    have hIf : s.heap.get? I = none := ext_fresh k04.ext hI
    refine h s' F xs (k05.loc'' k hIf) (k05.fresh hF) ⟨c, hF'⟩ (RowsR.keeps hJ fun b o q => hBs b o (fun hm => by rw [hideAll_none _ hm] at q; cases q) (of_hideAll _ q)) hns
end
end Mine

namespace Mine

def isPair (l : List Row) (k : Nat) : Bool := decide ((l[k]?).map (·.2) = some (.inl "{")) && decide ((l[k + 1]?).map (·.2) = some (.inl "}"))
def firstPair (l : List Row) : Option Nat := (List.range (l.length - 1)).find? (isPair l)
def reduce : Nat → List Row → Option Int
  | 0, _ => none
  | f + 1, l => match firstPair l with
    | none => none
    | some 0 => (l[1]?).map (·.1 + 1)
    | some (k + 1) => reduce f (l.take (k + 1) ++ l.drop (k + 3))

theorem find?_range {p : Nat → Bool} {n k : Nat} (hk : k < n) (hp : p k = true) (hb : ∀ j, j < k → p j = false) : (List.range n).find? p = some k := by
  rw [List.find?_range_eq_some]
  exact ⟨hp, by simpa using hk, fun j hj => by simp [hb j hj]⟩
theorem firstPair_some {l : List Row} {k : Nat} (hk : k + 1 < l.length) (hp : isPair l k = true) (hb : ∀ j, j < k → isPair l j = false) : firstPair l = some k := find?_range (by omega) hp hb
theorem firstPair_none {l : List Row} (hb : ∀ j, j + 1 < l.length → isPair l j = false) : firstPair l = none := by
  unfold firstPair
  rw [List.find?_eq_none]
  intro j hj
  simp [hb j (by have := List.mem_range.mp hj; omega)]

theorem Ls.hide {h : Heap} {L a : Addr} {ys : List Value} {m : Str → Option Value} (x : Ls h a ys) (n : h.Ns L m) : Ls (hideAll h [L]) a ys := by
  obtain ⟨c, e⟩ := x
  refine ⟨c, hideAll_get _ e (ni fun q => ?_)⟩
  obtain ⟨o, _, _, ho, hd, _⟩ := n
  rw [← q, e] at ho
  cases ho; cases hd
theorem TupR.hide {h : Heap} {L : Addr} {v : Value} {r : Row} {m : Str → Option Value} (x : TupR h v r) (n : h.Ns L m) : TupR (hideAll h [L]) v r := by
  obtain ⟨z, a, c, y, o, nn, e1, e2, e3, e4, e5, e6⟩ := x
  refine ⟨z, a, c, y, o, nn, e1, e2, e3, hideAll_get _ e4 (ni fun q => ?_), e5, e6⟩
  obtain ⟨o', _, _, ho, hd, _⟩ := n
  rw [← q, e4] at ho
  cases ho; rw [hd] at e6; cases e6
theorem RowsR.hide {h : Heap} {L : Addr} {vs : List Value} {rs : List Row} {m : Str → Option Value} (x : RowsR h vs rs) (n : h.Ns L m) : RowsR (hideAll h [L]) vs rs := Paired.imp (fun _ _ t => t.hide n) x
theorem ext_hide {B h : Heap} {L : Addr} (k : Ext B h) (e : B.get? L = none) : Ext B (hideAll h [L]) := fun b o q => hideAll_get _ (k _ _ q) (ni fun z => by rw [z, e] at q; cases q)
theorem ext_of_hide {h : Heap} {l : List Addr} : Ext (hideAll h l) h := fun _ _ e => of_hideAll _ e
theorem hide_none {h : Heap} {L : Addr} : (hideAll h [L]).get? L = none := hideAll_none _ (by simp)
theorem Ext.loc {B : Heap} {s s' : Shared} {L : Addr} (k : Ext B s.heap) (e : B.get? L = none) (k' : Kp [L] s s') : Ext B s'.heap := fun b o q => k'.keep _ _ (ni fun z => by rw [z, e] at q; cases q) (k _ _ q)

section
variable {prog : Program} {w : World} {A : Around} {E : Value → Shared → Prop} {s : Shared} {env : Env}
variable {word : Str} {rows : List Row} {ys : List Value} {s₀ : Shared} {L R : Addr} {n : Nat} {tw : Tok}

structure DueI (w : World) (s₀ : Shared) (L R : Addr) (ys : List Value) (rows : List Row) (word : Str) (tw : Tok) (P : Addr) (ps : List Value) (F : Addr) (l : List Row) (m : Str → Option Value) (s : Shared) : Prop where
  kp : Kp [] s₀ s
  ns : s.heap.Ns L m
  mp : m "places" = some (.ref P)
  ml : m "left" = some (.ref F)
  ex : ∃ B fs, Ext B s.heap ∧ B.get? L = none ∧ DueAt w s₀ L R ys rows word tw B ∧ Ls B P ps ∧ Ls B F fs ∧ RowsR B fs l

/-- a value held against a text -/
theorem valEq {v : Value} {x : Str ⊕ Int} {t : Str} {u : Tok} {Q : Value → Shared → Prop} (r : Room A n) (hv : VR v x) (ho : (valD x).canLay0 = true) (ht : (PyData.str t).canLay0 = true) (h : Q (.bool (decide (x = .inl t))) s) :
    wpAny (model prog w) A (compareOp .Eq v (.str t u)) Q E s := by
  have sh : ∀ y : Str ⊕ Int, (valD y).canLay0 = true → SeqAt.shaped (valD y) = true := fun y hy => by simp [SeqAt.shaped, hy, valD_depth]
  have e := valD_eqv x (.inl t)
  refine eq_t r hv.reads (Reads.str t u) (sh _ ho) (sh (.inl t) ht) ?_
  show Q (.bool (PyData.eqv (valD x) (valD (.inl t)))) s
  rw [e]; exact h

/-- the inner loop: the first pair -/
def innerS : Stmt := match (bodyOfS (topSt 21)).getD 3 (.Pass default) with
  | .While _ b _ _ => b.getD 1 (.Pass default)
  | _ => .Pass default

theorem due_inner {P F : Addr} {ps : List Value} {l : List Row} {m : Str → Option Value} {u : Tok} {Q : Flow → Shared → Prop} (r : Room A (n + 6)) (hL : s₀.heap.get? L = none) (hl : 0 < l.length) (hlsz : l.length ≤ sizeLine) (I : DueI w s₀ L R ys rows word tw P ps F l m s) (mk : m "k" = some (.int 0 u))
    (h : ∀ s' m' k u', Kp [L] s s' → DueI w s₀ L R ys rows word tw P ps F l m' s' → m' "k" = some (.int (k : Nat) u') → k + 1 ≤ l.length → (∀ j, j < k → isPair l j = false) → (k + 1 = l.length ∨ isPair l k = true) → Q .next s') :
    wpAny (model prog w) A (exec innerS (dueEnv L)) Q E s := by
  refine wpAny_While (codeAny_whileLoop (fun q s' => ∃ k m' u', q = l.length - k ∧ Kp [L] s s' ∧ DueI w s₀ L R ys rows word tw P ps F l m' s' ∧ m' "k" = some (.int (k : Nat) u') ∧ k + 1 ≤ l.length ∧ ∀ j, j < k → isPair l j = false) ?_ l.length ⟨0, m, u, by simp, .refl, I, mk, hl, by intro j hj; omega⟩)
  rintro q s₁ ⟨k, m₁, u₁, rfl, k₁, I₁, mk₁, hk, hb⟩
  obtain ⟨B, fs, eB, bL, D, hP, hF, hR⟩ := I₁.ex
  have hfl : fs.length = l.length := hR.length
  have T₁ := D.T.keeps eB
  refine isTrue_and (wpAny_isTrue_Compare1 (wpAny_BinOp (nm_l I₁.ns mk₁ (ev_int fun s₂ u₂ k₂ => add_i fun s₃ u₃ k₃ => ?_))))
  have k13 := k₂.then k₃
  refine ev_lenL (k13.top T₁) (nm_l (k13.ns0 I₁.ns) I₁.ml ⟨F, fs, rfl, (hF.keeps eB).keeps k13.ext, by omega, fun s₄ u₄ k₄ => PyProof.Rows.lt_int (wpAny_truthy_bool ?_)⟩)
  have k14 := k13.then k₄
  have n₄ := k14.ns0 I₁.ns
  have done : ∀ s₅, Kp [] s₁ s₅ → (k + 1 = l.length ∨ isPair l k = true) → wpAny (model prog w) A (execs [] (dueEnv L)) (fun f s₃ => (match f with | f => Q f s₃)) (notedBy (model prog w) A (dueEnv L) fun e s' => cameBackBy (model prog w) A (dueEnv L) E e s') s₅ := by
    intro s₅ k₅ ho
    exact wpAny_execs_nil (h s₅ m₁ k u₁ (k₁.then k₅) ⟨I₁.kp.then k₅, k₅.ns0 I₁.ns, I₁.mp, I₁.ml, B, fs, ext_tr eB k₅.ext, bL, D, hP, hF, hR⟩ mk₁ hk hb ho)
  by_cases hlt : k + 1 < l.length
  · rw [if_pos (by simp; omega)]
    obtain ⟨v, hv, hr⟩ := Paired.get hR (show l[k]? = some l[k] by simp)
    obtain ⟨v', hv', hr'⟩ := Paired.get hR (show l[k + 1]? = some l[k + 1] by simp [hlt])
    have hri : l[k]? = some l[k] := by simp
    have hri' : l[k + 1]? = some l[k + 1] := by simp [hlt]
    have okb : ∀ t : Str, t = "{" ∨ t = "}" → (PyData.str t).canLay0 = true := by rintro t (rfl | rfl) <;> decide +kernel
    refine isTrue_and (isTrue_not (isTrue_and (wpAny_isTrue_Compare1 (Subscript_ (Subscript_ (nm_l n₄ I₁.ml (nm_l n₄ mk₁ (ls_at ((hF.keeps eB).keeps k14.ext) (by omega) hv (ev_int fun s₅ u₅ k₅ => ?_)))))))))
    have k15 := k14.then k₅
    refine rowAt (k15.top T₁) (n := n + 2) r (.inl ((hr.keeps eB).keeps k15.ext)) (.inr rfl) fun y s₆ k₆ _ hy => ev_str fun s₇ u₇ k₇ => valEq r (hy rfl) hr.ok (okb _ (.inl rfl)) (wpAny_truthy_bool ?_)
    have k17 := (k15.then k₆).then k₇
    have n₇ := k17.ns0 I₁.ns
    -- the step
    have step : ∀ s₈, Kp [] s₁ s₈ → isPair l k = false → wpAny (model prog w) A (execs (match innerS with | .While _ b _ _ => b | _ => []) (dueEnv L)) (fun f s₃ => match f with
            | .next | .cont => ∃ m, m < l.length - k ∧ ∃ k m' u', m = l.length - k ∧ Kp [L] s s₃ ∧ DueI w s₀ L R ys rows word tw P ps F l m' s₃ ∧ m' "k" = some (.int (k : Nat) u') ∧ k + 1 ≤ l.length ∧ ∀ j, j < k → isPair l j = false
            | .brk => Q .next s₃
            | .ret v => Q (.ret v) s₃) (notedBy (model prog w) A (dueEnv L) fun e s' => cameBackBy (model prog w) A (dueEnv L) E e s') s₈ := by
      intro s₈ k₈ hp
      refine wpAny_execs_cons (asg (wpAny_BinOp (nm_l (k₈.ns0 I₁.ns) mk₁ (ev_int fun s₉ u₉ k₉ => add_i fun s₁₀ u₁₀ k₁₀ => ⟨m₁, ((k₈.then k₉).then k₁₀).ns0 I₁.ns, fun s₁₁ k₁₁ n₁₁ => wpAny_execs_nil ?_⟩))))
      have ka := (k₈.then k₉).then k₁₀
      refine ⟨l.length - (k + 1), by omega, k + 1, _, u₁₀, rfl, k₁.and (ka.loc' k₁₁), ⟨(I₁.kp.then ka).loc1 k₁₁ hL, n₁₁, ?_, ?_, B, fs, (ext_tr eB ka.ext).loc bL k₁₁, bL, D, hP, hF, hR⟩, ?_, hlt, ?_⟩
      · rw [if_neg (by decide)]; exact I₁.mp
      · rw [if_neg (by decide)]; exact I₁.ml
      · rw [if_pos rfl]; rfl
      · intro j hj
        by_cases e : j = k
        · rw [e]; exact hp
        · exact hb j (by omega)
    by_cases ho : (l[k]).2 = .inl "{"
    · rw [if_pos (by simp [ho])]
      refine isTrue_and (wpAny_isTrue_Compare1 (Subscript_ (Subscript_ (nm_l n₇ I₁.ml (wpAny_BinOp (nm_l n₇ mk₁ (ev_int fun s₈ u₈ k₈ => add_i fun s₉ u₉ k₉ => ?_)))))))
      have k19 := (k17.then k₈).then k₉
      refine ls_at (i := k + 1) ((hF.keeps eB).keeps k19.ext) (by omega) hv' (ev_int fun s₁₀ u₁₀ k₁₀ => ?_)
      have k110 := k19.then k₁₀
      refine rowAt (k110.top T₁) (n := n + 2) r (.inl ((hr'.keeps eB).keeps k110.ext)) (.inr rfl) fun y' s₁₁ k₁₁ _ hy' => ev_str fun s₁₂ u₁₂ k₁₂ => valEq r (hy' rfl) hr'.ok (okb _ (.inr rfl)) (wpAny_truthy_bool ?_)
      have k112 := (k110.then k₁₁).then k₁₂
      by_cases hc : (l[k + 1]).2 = .inl "}"
      · rw [if_pos (by simp [hc])]
        refine isTrue_and_nil ?_
        refine done s₁₂ k112 (.inr ?_)
        unfold isPair
        rw [hri, hri']
        simp [ho, hc]
      · rw [if_neg (by simp [hc])]
        refine isTrue_and_nil (step s₁₂ k112 ?_)
        unfold isPair
        rw [hri, hri']
        simp [hc]
    · rw [if_neg (by simp [ho])]
      refine isTrue_and_nil (step s₇ k17 ?_)
      unfold isPair
      rw [hri]
      simp [ho]
  · rw [if_neg (by simp; omega)]
    exact done s₄ k14 (.inl (by omega))
end
end Mine

namespace Mine

section
variable {prog : Program} {w : World} {A : Around} {E : Value → Shared → Prop} {s : Shared} {env : Env}
variable {word : Str} {rows : List Row} {ys : List Value} {s₀ : Shared} {L R : Addr} {n : Nat} {tw : Tok}

/-- :e, e: -/
theorem ev_upto {e₂ : Expr} {p : Pos} {Q : Value → Shared → Prop}
    (h : wpAny (model prog w) A (eval e₂ env) (fun v₂ s₂ => ∀ s₃ sl, Kp [] s₂ s₃ → s₃.heap.IsSliceOf sl .none v₂ .none → Q (.ref sl) s₃) E s) :
    wpAny (model prog w) A (eval (.Slice none (some e₂) none p) env) Q E s := by
  refine wpAny_Slice ?_
  rw [evalPart_none]
  refine wpAny_pure ?_
  rw [evalPart_some]
  refine wpAny_mono h (fun v₂ s₂ h₂ => ?_) fun _ _ e => e
  exact wpAny_pure (h₂ _ _ .push (.new _ _ _ _))
theorem ev_from {e₁ : Expr} {p : Pos} {Q : Value → Shared → Prop}
    (h : wpAny (model prog w) A (eval e₁ env) (fun v₁ s₂ => ∀ s₃ sl, Kp [] s₂ s₃ → s₃.heap.IsSliceOf sl v₁ .none .none → Q (.ref sl) s₃) E s) :
    wpAny (model prog w) A (eval (.Slice (some e₁) none none p) env) Q E s := by
  refine wpAny_Slice ?_
  rw [evalPart_some]
  refine wpAny_mono h (fun v₂ s₂ h₂ => ?_) fun _ _ e => e
  rw [evalPart_none]
  refine wpAny_pure (wpAny_pure ?_)
  exact h₂ _ _ .push (.new _ _ _ _)

def whileBody : List Stmt := match (bodyOfS (topSt 21)).getD 3 (.Pass default) with
  | .While _ b _ _ => b
  | _ => []

def DueQ (s₀ : Shared) (p0 : Nat) (Q : Value → Shared → Prop) : Option Int → Prop
  | none => ∀ s' t, Kp [] s₀ s' → Q (.str "open" t) s'
  | some e => ∀ s' x t u, Kp [] s₀ s' → s₀.heap.get? x = none → s'.heap.get? x = some (tupO [.int (p0 : Int) t, .int e u]) → Q (.ref x) s'

theorem due_loop {P F : Addr} {ps : List Value} {pl : List Nat} {p0 f : Nat} {l : List Row} {m : Str → Option Value} {Qv : Value → Shared → Prop} {Q : Flow → Shared → Prop} (r : Room A (n + 6)) (hL : s₀.heap.get? L = none) (hf : l.length ≤ f) (hlsz : l.length ≤ sizeLine)
    (hps : Paired IntR ps (p0 :: pl)) (hpsz : ps.length ≤ sizeLine) (I : DueI w s₀ L R ys rows word tw P ps F l m s) (hQ : DueQ s₀ p0 Qv (reduce f l))
    (hret : ∀ v s', Qv v s' → Q (.ret v) s') (hend : ∀ s', Kp [] s₀ s' → (∀ s'' t, Kp [] s₀ s'' → Qv (.str "open" t) s'') → Q .next s') :
    wpAny (model prog w) A (exec ((bodyOfS (topSt 21)).getD 3 (.Pass default)) (dueEnv L)) Q E s := by
  have hlt := sizeLine_lt
  obtain ⟨pv, hpv, tp, rfl⟩ := Paired.get hps (show (p0 :: pl)[0]? = some p0 from rfl)
  refine wpAny_While (codeAny_whileLoop (fun q s' => ∃ f F l m, q = l.length ∧ l.length ≤ f ∧ l.length ≤ sizeLine ∧ DueI w s₀ L R ys rows word tw P ps F l m s' ∧ DueQ s₀ p0 Qv (reduce f l)) ?_ l.length ⟨f, F, l, m, rfl, hf, hlsz, I, hQ⟩)
  rintro q s₁ ⟨f, F, l, m, rfl, hf, hlsz, I, hQ⟩
  obtain ⟨B, fs, eB, bL, D, hP, hF, hR⟩ := I.ex
  have hfl : fs.length = l.length := hR.length
  have T₁ := D.T.keeps eB
  refine wpAny_isTrue_Compare1 (ev_lenL T₁ (nm_l I.ns I.ml ⟨F, fs, rfl, hF.keeps eB, by omega, fun s₂ u₂ k₂ => ev_int fun s₃ u₃ k₃ => PyProof.Rows.gt_int (wpAny_truthy_bool ?_)⟩))
  have k13 := k₂.then k₃
  by_cases h1 : 1 < l.length
  · rw [if_pos (by simp; omega)]
    -- k = 0
    refine wpAny_execs_cons (asg (ev_int fun s₄ u₄ k₄ => ⟨m, (k13.then k₄).ns0 I.ns, fun s₅ k₅ n₅ => ?_⟩))
    have k14 := k13.then k₄
    have I₅ : DueI w s₀ L R ys rows word tw P ps F l _ s₅ := ⟨(I.kp.then k14).loc1 k₅ hL, n₅, by rw [if_neg (by decide)]; exact I.mp, by rw [if_neg (by decide)]; exact I.ml, B, fs, (ext_tr eB k14.ext).loc bL k₅, bL, D, hP, hF, hR⟩
    refine wpAny_execs_cons (due_inner r hL (by omega) hlsz I₅ (if_pos rfl) fun s₆ m₆ k u₆ k₆ I₆ mk hk hb hor => ?_)
    obtain ⟨B, fs, eB, bL, D, hP, hF, hR⟩ := I₆.ex
    have hfl : fs.length = l.length := hR.length
    have T₆ := D.T.keeps eB
    obtain ⟨f, rfl⟩ : ∃ f', f = f' + 1 := ⟨f - 1, by omega⟩
    -- if k + 1 == len(left)
    refine wpAny_execs_cons (wpAny_If (wpAny_isTrue_Compare1 (wpAny_BinOp (nm_l I₆.ns mk (ev_int fun s₇ u₇ k₇ => add_i fun s₈ u₈ k₈ => ?_)))))
    have k68 := k₇.then k₈
    refine ev_lenL (k68.top T₆) (nm_l (k68.ns0 I₆.ns) I₆.ml ⟨F, fs, rfl, (hF.keeps eB).keeps k68.ext, by omega, fun s₉ u₉ k₉ => PyProof.Rows.eq_int (wpAny_truthy_bool ?_)⟩)
    have k69 := k68.then k₉
    by_cases he : k + 1 = l.length
    · rw [if_pos (by simp; omega)]
      refine wpAny_execs_cons (wpAny_Return_some (ev_str fun s₁₀ t₁₀ k₁₀ => ?_))
      rw [reduce, firstPair_none (fun j hj => hb j (by omega))] at hQ
      exact hret _ _ (hQ _ _ (I₆.kp.then (k69.then k₁₀)))
    · rw [if_neg (by simp; omega)]
      have hp : isPair l k = true := hor.resolve_left he
      have hk1 : k + 1 < l.length := by omega
      rw [reduce, firstPair_some hk1 hp hb] at hQ
      refine wpAny_execs_nil ?_
      have n₉ := k69.ns0 I₆.ns
      refine wpAny_execs_cons (wpAny_If (wpAny_isTrue_Compare1 (nm_l n₉ mk (ev_int fun s₁₀ u₁₀ k₁₀ => PyProof.Rows.eq_int (wpAny_truthy_bool ?_)))))
      have k610 := k69.then k₁₀
      have n₁₀ := k610.ns0 I₆.ns
      cases k with
      | zero =>
        rw [if_pos (by simp)]
        obtain ⟨v1, hv1, hr1⟩ := Paired.get hR (show l[1]? = some l[1] by simp)
        have hl1 : l[1]? = some l[1] := by simp
        rw [hl1] at hQ
        refine wpAny_execs_cons (wpAny_Return_some (ev_tup2 (Subscript_ (nm_l n₁₀ I₆.mp (ev_int fun s₁₁ u₁₁ k₁₁ => ls_at (i := 0) ((hP.keeps eB).keeps (k610.then k₁₁).ext) hpsz hpv ?_)))))
        have k611 := k610.then k₁₁
        refine wpAny_BinOp (Subscript_ (Subscript_ (nm_l (k611.ns0 I₆.ns) I₆.ml (ev_int fun s₁₂ u₁₂ k₁₂ => ls_at (i := 1) ((hF.keeps eB).keeps (k611.then k₁₂).ext) (by omega) hv1 (ev_int fun s₁₃ u₁₃ k₁₃ => ?_)))))
        have k613 := (k611.then k₁₂).then k₁₃
        refine rowAt (k613.top T₆) (n := n + 2) r (.inl ((hr1.keeps eB).keeps k613.ext)) (.inl rfl) fun y s₁₄ k₁₄ hy _ => ?_
        obtain ⟨ty, rfl⟩ := hy rfl
        refine ev_int fun s₁₅ u₁₅ k₁₅ => add_i fun s₁₆ u₁₆ k₁₆ s₁₇ x k₁₇ fx hx => ?_
        have k616 := ((k613.then k₁₄).then k₁₅).then k₁₆
        exact hret _ _ (hQ _ x tp _ ((I₆.kp.then k616).then k₁₇) ((I₆.kp.then k616).fresh fx) hx)
      | succ k =>
        rw [if_neg (by simp; omega)]
        refine wpAny_execs_nil ?_
        -- left = left[:k] + left[k + 2:]
        refine wpAny_execs_cons (asg (wpAny_BinOp (Subscript_ (nm_l n₁₀ I₆.ml (ev_upto (nm_l n₁₀ mk fun s₁₁ sl k₁₁ hsl => ?_))))))
        have k611 := k610.then k₁₁
        refine ls_slice ((hF.keeps eB).keeps k611.ext) (by omega) hsl .none (.int _ _) (slicePick_upto' _ (k + 1)) fun s₁₂ D₁ k₁₂ fD₁ lD₁ => ?_
        have k612 := k611.then k₁₂
        refine Subscript_ (nm_l (k612.ns0 I₆.ns) I₆.ml (ev_from (wpAny_BinOp (nm_l (k612.ns0 I₆.ns) mk (ev_int fun s₁₃ u₁₃ k₁₃ => add_i fun s₁₄ u₁₄ k₁₄ s₁₅ sl' k₁₅ hsl' => ?_)))))
        have k1215 := (k₁₃.then k₁₄).then k₁₅
        have k615 := k612.then k1215
        refine ls_slice ((hF.keeps eB).keeps k615.ext) (by omega) hsl' (.int _ _) .none (slicePick_from' _ (k + 3)) fun s₁₆ D₂ k₁₆ fD₂ lD₂ => ?_
        have k616 := k615.then k₁₆
        refine ls_add (lD₁.keeps (k1215.then k₁₆).ext) lD₂ (by simp; omega) fun s₁₇ D₃ k₁₇ fD₃ lD₃ => ⟨m₆, (k616.then k₁₇).ns0 I₆.ns, fun s₁₈ k₁₈ n₁₈ => wpAny_execs_nil ?_⟩
        have k617 := k616.then k₁₇
        have n₁₇ := k617.ns0 I₆.ns
        have e17 := ext_tr eB k617.ext
        have len' : (l.take (k + 1) ++ l.drop (k + 3)).length < l.length := by simp; omega
        refine ⟨_, len', f, D₃, l.take (k + 1) ++ l.drop (k + 3), _, rfl, by omega, by omega, ⟨(I₆.kp.then k617).loc1 k₁₈ hL, n₁₈, by rw [if_neg (by decide)]; exact I₆.mp, if_pos rfl, hideAll s₁₇.heap [L], _, ext_of_hide.loc hide_none k₁₈, hide_none,
          D.keeps (ext_hide e17 bL), hP.keeps (ext_hide e17 bL), lD₃.hide n₁₇, ?_⟩, hQ⟩
        have hR' : RowsR (hideAll s₁₇.heap [L]) fs l := hR.keeps (ext_hide e17 bL)
        have := Paired.app (Paired.take (k + 1) hR') (Paired.drop (k + 3) hR')
        show Paired _ _ _
        simpa using this
  · rw [if_neg (by simp; omega)]
    refine wpAny_execs_nil (hend s₃ (I.kp.then k13) ?_)
    cases f with
    | zero => exact hQ
    | succ f =>
      rw [reduce, firstPair_none (fun j hj => by omega)] at hQ
      exact hQ

def DuePost (word : Str) (rows : List Row) (s : Shared) (Q : Value → Shared → Prop) : Prop :=
  match placesL word rows with
  | [] => ∀ s' t, Kp [] s s' → Q (.str "none" t) s'
  | p :: _ => DueQ s p Q (reduce rows.length (leftL rows (p + 1) (rows.length - (p + 1))))

theorem placesL_lt {word : Str} {rows : List Row} {p : Nat} (h : p ∈ placesL word rows) : p + 1 < rows.length := by
  have := List.mem_range.mp (List.mem_filter.mp h).1
  omega
theorem placesL_len (word : Str) (rows : List Row) : (placesL word rows).length ≤ rows.length - 1 := by
  have := List.length_filter_le (isStart word rows) (List.range (rows.length - 1))
  simpa [placesL] using this
theorem leftL_len (rows : List Row) (a n : Nat) : (leftL rows a n).length ≤ n := by
  have := List.length_filterMap_le (fun i => leftAt rows (a + i)) (List.range n)
  simpa [leftL] using this

theorem due_call {Q : Value → Shared → Prop} (T : Top0 w s.heap) (r : Room A (n + 7)) (l : Ls s.heap R ys) (rr : RowsR s.heap ys rows) (hsz : ys.length ≤ sizeLine) (hok : okR (nmr word)) (h : DuePost word rows s Q) :
    wpAny (model prog w) A (call (.ref 407) [.ref R, .str word tw]) Q E s := by
  have hlen : ys.length = rows.length := rr.length
  refine call_dueX T r fun A' s₁ L m r₁ k₁ hL hns c1 c2 T₁ => ?_
  have D : DueAt w s L R ys rows word tw s₁.heap := ⟨T₁, l.keeps k₁.ext, rr.keeps k₁.ext, c1, c2⟩
  have cne : ∀ v c, s₁.heap.IsCell c v → c ≠ L := by
    rintro v c ⟨o, ho, hd⟩ q
    obtain ⟨o', _, _, ho', hd', _⟩ := hns
    rw [q, ho'] at ho; cases ho; rw [hd'] at hd; cases hd
  have hide1 : Ext s.heap (hideAll s₁.heap [L]) := ext_hide k₁.ext hL
  have D₁ : DueAt w s L R ys rows word tw (hideAll s₁.heap [L]) := by
    refine ⟨T.keeps hide1, l.keeps hide1, rr.keeps hide1, ?_, ?_⟩
    · obtain ⟨o, ho, hd⟩ := id c1
      exact ⟨o, hideAll_get _ ho (ni (cne _ _ c1)), hd⟩
    · obtain ⟨o, ho, hd⟩ := id c2
      exact ⟨o, hideAll_get _ ho (ni (cne _ _ c2)), hd⟩
  refine wpAny_execs_cons (due_places r₁ hsz hok D₁ ext_of_hide hide_none hns fun s₂ P ps m₂ k₂ fP lP hps n₂ mp => ?_)
  have e₂ : Ext (hideAll s₁.heap [L]) s₂.heap := ext_of_hide.loc hide_none k₂
  have k02 : Kp [] s s₂ := k₁.loc1 k₂ hL
  have hpl := placesL_len word rows
  have hpsl : ps.length = (placesL word rows).length := hps.length
  refine wpAny_execs_cons (wpAny_If (isTrue_not (isTrue_plain (nm_l n₂ mp (ls_true lP (by omega) fun s₃ k₃ => ?_)))))
  have n₃ := k₃.ns0 n₂
  have k03 := k02.then k₃
  have e₃ : Ext (hideAll s₁.heap [L]) s₃.heap := ext_tr e₂ k₃.ext
  unfold DuePost at h
  cases hp : placesL word rows with
  | nil =>
    rw [hp] at h hps
    cases hps
    rw [if_pos (by rfl)]
    exact wpAny_execs_cons (wpAny_Return_some (ev_str fun s₄ t k₄ => h _ _ (k03.then k₄)))
  | cons p0 pl =>
    rw [hp] at h hps
    have hp0 := placesL_lt (word := word) (rows := rows) (p := p0) (by rw [hp]; simp)
    rw [hp] at hpl hpsl
    simp only [List.length_cons] at hpl hpsl
    have pse : ps.isEmpty = false := by cases ps with
      | nil => simp at hpsl
      | cons => rfl
    rw [pse, if_neg (by simp)]
    refine wpAny_execs_nil ?_
    -- the braces behind it
    have lP₃ : Ls (hideAll s₃.heap [L]) P ps := (lP.keeps k₃.ext).hide n₃
    have D₃ : DueAt w s L R ys rows word tw (hideAll s₃.heap [L]) := D₁.keeps (ext_hide e₃ hide_none)
    refine wpAny_execs_cons (due_left r₁ hsz D₃ ext_of_hide hide_none n₃ mp lP₃ hps (by omega) (by omega) fun s₄ F fs k₄ fF lF hF n₄ => ?_)
    have e₄ : Ext (hideAll s₃.heap [L]) s₄.heap := ext_of_hide.loc hide_none k₄
    have k04 := k03.loc1 k₄ hL
    have hll := leftL_len rows (p0 + 1) (rows.length - (p0 + 1))
    refine wpAny_execs_cons (due_loop (s₀ := s) (Qv := Q) r₁ hL (f := rows.length) (by omega) (by omega) hps (by omega)
      ⟨k04, n₄, by rw [if_neg (by decide)]; exact mp, if_pos rfl, hideAll s₄.heap [L], fs, ext_of_hide, hide_none, D₃.keeps (ext_hide e₄ hide_none), lP₃.keeps (ext_hide e₄ hide_none), lF.hide n₄, hF.hide n₄⟩ h (fun v s' q => q) fun s₅ k₅ q => ?_)
    exact wpAny_execs_cons (wpAny_Return_some (ev_str fun s₆ t k₆ => q _ _ (k₅.then k₆)))
end
end Mine

namespace Mine

abbrev isO (r : Row) : Prop := r.2 = .inl "{"
abbrev isC (r : Row) : Prop := r.2 = .inl "}"
def lscan : List Row → Int → Option Int
  | [], _ => none
  | r :: t, lv => let lv' := if isO r then lv + 1 else lv - 1
    if lv' = 0 then some (r.1 + 1) else lscan t lv'

theorem isO_not_isC {r : Row} (h : isO r) : ¬ isC r := by unfold isO isC at *; rw [h]; decide

theorem lscan_O {r : Row} {t : List Row} {lv : Int} (h : isO r) : lscan (r :: t) lv = if lv + 1 = 0 then some (r.1 + 1) else lscan t (lv + 1) := by
  rw [lscan]; simp only [if_pos h]
theorem lscan_C {r : Row} {t : List Row} {lv : Int} (h : isC r) : lscan (r :: t) lv = if lv - 1 = 0 then some (r.1 + 1) else lscan t (lv - 1) := by
  rw [lscan]; simp only [if_neg (fun q : isO r => isO_not_isC q h)]
theorem seStep_at {word : Str} {rows : List Row} {i a : Nat} {lv v : Int} (h : (if rows[i]? = some opn then lv + 1 else if rows[i]? = some clz then lv - 1 else lv) = v) : seStep word rows i (some a) lv = if v = 0 then .inr (a, i) else .inl (some a, v) := by
  subst h; rfl

theorem lscan_pre : ∀ (pre rest : List Row) (lv : Int), 0 ≤ lv → (∀ r ∈ pre, isO r) → lscan (pre ++ rest) lv = lscan rest (lv + pre.length)
  | [], rest, lv, _, _ => by simp
  | r :: pre, rest, lv, h, ho => by
    rw [List.cons_append, lscan]
    simp only [if_pos (ho r (by simp))]
    rw [if_neg (by omega), lscan_pre pre rest (lv + 1) (by omega) (fun x hx => ho x (by simp [hx]))]
    congr 1
    simp; omega

theorem opens_upto {l : List Row} {k : Nat} (hbr : ∀ r ∈ l, isO r ∨ isC r) (h0 : ∀ r, l[0]? = some r → isO r) (hb : ∀ j, j < k → isPair l j = false) : ∀ j, j ≤ k → ∀ r, l[j]? = some r → isO r
  | 0, _, r, e => h0 r e
  | j + 1, hj, r, e => by
    rcases hbr r (List.mem_of_getElem? e) with h | h
    · exact h
    · exfalso
      have hlt : j < l.length := by have := (List.getElem?_eq_some_iff.mp e).1; omega
      have hp := opens_upto hbr h0 hb j (by omega) l[j] (by simp [hlt])
      have := hb j (by omega)
      unfold isPair at this
      rw [e, show l[j]? = some l[j] by simp [hlt]] at this
      unfold isO at hp; unfold isC at h
      simp [hp, h] at this

theorem firstPair_spec {l : List Row} : (∀ k, firstPair l = some k → k + 1 < l.length ∧ isPair l k = true ∧ ∀ j, j < k → isPair l j = false) ∧ (firstPair l = none → ∀ j, j + 1 < l.length → isPair l j = false) := by
  constructor
  · intro k h
    unfold firstPair at h
    rw [List.find?_range_eq_some] at h
    obtain ⟨h1, h2, h3⟩ := h
    simp at h2
    exact ⟨by omega, h1, fun j hj => by simpa using h3 j hj⟩
  · intro h j hj
    unfold firstPair at h
    rw [List.find?_eq_none] at h
    simpa using h j (List.mem_range.mpr (by omega))

theorem reduce_scan : ∀ (f : Nat) (l : List Row), l.length ≤ f → (∀ r ∈ l, isO r ∨ isC r) → (∀ r, l[0]? = some r → isO r) → reduce f l = lscan l 0
  | 0, l, hf, _, _ => by
    have : l = [] := List.length_eq_zero_iff.mp (by omega)
    subst this; rfl
  | f + 1, l, hf, hbr, h0 => by
    rw [reduce]
    cases hp : firstPair l with
    | none =>
      have hb := firstPair_spec.2 hp
      have all : ∀ r ∈ l, isO r := by
        intro r hr
        obtain ⟨j, hj, rfl⟩ := List.mem_iff_getElem.mp hr
        exact opens_upto hbr h0 (k := j) (fun i hi => hb i (by omega)) j (Nat.le_refl _) _ (by simp [hj])
      have := lscan_pre l [] 0 (by omega) all
      rw [List.append_nil] at this
      rw [this]; rfl
    | some k =>
      obtain ⟨hk, hpk, hb⟩ := firstPair_spec.1 k hp
      have op := opens_upto hbr h0 hb
      have pre : ∀ r ∈ l.take k, isO r := by
        intro r hr
        obtain ⟨j, hj, rfl⟩ := List.mem_iff_getElem.mp hr
        have hj' : j < k := by simp at hj; omega
        exact op j (by omega) _ (by simp [show j < l.length by omega])
      have hkO : isO l[k] := op k (Nat.le_refl _) _ (by simp)
      have hkC : isC l[k + 1] := by
        unfold isPair at hpk
        rw [show l[k + 1]? = some l[k + 1] by simp] at hpk
        simp at hpk
        exact hpk.2
      have split : l = l.take k ++ l[k] :: l[k + 1] :: l.drop (k + 2) := by
        rw [← List.drop_eq_getElem_cons (i := k + 1) hk, ← List.drop_eq_getElem_cons (i := k) (by omega), List.take_append_drop]
      have lenk : (l.take k).length = k := by simp; omega
      have scan : lscan l 0 = if k = 0 then some (l[k + 1].1 + 1) else lscan (l.drop (k + 2)) k := by
        conv => lhs; rw [split]
        rw [lscan_pre _ _ 0 (by omega) pre, lenk, lscan]
        simp only [if_pos hkO]
        rw [if_neg (by omega), lscan]
        have : ¬ isO l[k + 1] := fun h => isO_not_isC h hkC
        simp only [if_neg this]
        by_cases hk0 : k = 0
        · rw [if_pos (by omega), if_pos hk0]
        · rw [if_neg (by omega), if_neg hk0]
          congr 1; omega
      rw [scan]
      cases k with
      | zero => rw [show l[1]? = some l[1] by simp]; rfl
      | succ k =>
        simp only [Nat.succ_ne_zero, if_false]
        rw [reduce_scan f _ (by simp; omega) ?_ ?_]
        · rw [lscan_pre _ _ 0 (by omega) pre, lenk]
          congr 1; omega
        · intro r hr
          rcases List.mem_append.mp hr with h | h
          · exact hbr r (List.mem_of_mem_take h)
          · exact hbr r (List.mem_of_mem_drop h)
        · intro r hr
          refine h0 r ?_
          rw [List.getElem?_append_left (by simp; omega)] at hr
          simpa using hr

theorem leftL_succ (rows : List Row) (a n : Nat) : leftL rows a (n + 1) = (leftAt rows a).toList ++ leftL rows (a + 1) n := by
  unfold leftL
  rw [List.range_succ_eq_map, List.filterMap_cons, List.filterMap_map]
  have : (fun i => leftAt rows (a + i)) ∘ Nat.succ = fun i => leftAt rows (a + 1 + i) := by
    funext i
    show leftAt rows (a + (i + 1)) = _
    congr 1; omega
  rw [this]
  simp only [Nat.add_zero]
  cases leftAt rows a <;> rfl

theorem leftL_brace (rows : List Row) (a n : Nat) : ∀ r ∈ leftL rows a n, isO r ∨ isC r := by
  intro r hr
  obtain ⟨i, _, h⟩ := List.mem_filterMap.mp hr
  unfold leftAt at h
  split at h
  · rename_i r' _
    split at h
    · rename_i hor
      cases h
      rcases hor with rfl | rfl
      · exact .inl rfl
      · exact .inr rfl
    · cases h
  · cases h

theorem scan_rows {word : Str} {rows : List Row} {p : Nat} : ∀ (k i : Nat) (lv : Int), k = rows.length - i → i ≤ rows.length → (lv ≠ 0 ∨ rows[i]? = some opn) → 0 ≤ lv →
    seGo word rows k i (some p) lv = (some p, (lscan (leftL rows i k) lv).map fun e => (e - 1).toNat) ∧ ∀ e, lscan (leftL rows i k) lv = some e → 1 ≤ e
  | 0, i, lv, hk, hi, hlv, h0 => by simp [seGo, leftL, lscan]
  | k + 1, i, lv, hk, hi, hlv, h0 => by
    have hil : i < rows.length := by omega
    have hri : rows[i]? = some rows[i] := by simp
    rw [seGo, leftL_succ]
    by_cases ho : rows[i] = opn
    · have hl : leftAt rows i = some ((i : Int), (rows[i]).2) := by unfold leftAt; rw [hri]; simp [ho]
      have hst : seStep word rows i (some p) lv = .inl (some p, lv + 1) := by
        rw [seStep_at (v := lv + 1) (by rw [hri, ho, if_pos rfl]), if_neg (by omega)]
      rw [hst, hl]
      have IH := scan_rows (word := word) (rows := rows) (p := p) k (i + 1) (lv + 1) (by omega) (by omega) (.inl (by omega)) (by omega)
      have e : lscan ((some ((i : Int), (rows[i]).2)).toList ++ leftL rows (i + 1) k) lv = lscan (leftL rows (i + 1) k) (lv + 1) := by
        show lscan (_ :: _) lv = _
        rw [lscan_O (show isO ((i : Int), (rows[i]).2) by rw [ho]), if_neg (by omega)]
        rfl
      rw [e]
      exact IH
    · have hlv' : lv ≠ 0 := hlv.resolve_right (by rw [hri]; simpa using ho)
      by_cases hc : rows[i] = clz
      · have hl : leftAt rows i = some ((i : Int), (rows[i]).2) := by unfold leftAt; rw [hri]; simp [hc]
        have e : lscan ((some ((i : Int), (rows[i]).2)).toList ++ leftL rows (i + 1) k) lv = if lv - 1 = 0 then some ((i : Int) + 1) else lscan (leftL rows (i + 1) k) (lv - 1) := by
          show lscan (_ :: _) lv = _
          rw [lscan_C (show isC ((i : Int), (rows[i]).2) by rw [hc])]
          rfl
        rw [hl, e]
        have hst : seStep word rows i (some p) lv = if lv - 1 = 0 then .inr (p, i) else .inl (some p, lv - 1) := by
          exact seStep_at (by rw [hri, if_neg (fun q => ho (Option.some.inj q)), if_pos (by rw [hc])])
        rw [hst]
        by_cases h1 : lv - 1 = 0
        · rw [if_pos h1, if_pos h1]
          refine ⟨by simp, fun e he => by cases he; omega⟩
        · rw [if_neg h1, if_neg h1]
          exact scan_rows k (i + 1) (lv - 1) (by omega) (by omega) (.inl h1) (by omega)
      · have hl : leftAt rows i = none := by unfold leftAt; rw [hri]; simp [ho, hc]
        have hst : seStep word rows i (some p) lv = .inl (some p, lv) := by
          rw [seStep_at (v := lv) (by rw [hri, if_neg (fun q => ho (Option.some.inj q)), if_neg (fun q => hc (Option.some.inj q))]), if_neg hlv']
        rw [hst, hl]
        exact scan_rows k (i + 1) lv (by omega) (by omega) (.inl hlv') h0

theorem scan_none {word : Str} {rows : List Row} : ∀ (k i : Nat), k = rows.length - i → i ≤ rows.length → (∀ j, i ≤ j → j + 1 < rows.length → isStart word rows j = false) → seGo word rows k i none 0 = (none, none)
  | 0, i, _, _, _ => rfl
  | k + 1, i, hk, hi, h => by
    have hst : seStep word rows i none 0 = .inl (none, 0) := by
      simp only [seStep]
      rw [if_neg]
      rintro ⟨h1, h2⟩
      have hj := (List.getElem?_eq_some_iff.mp h2).1
      have := h i (Nat.le_refl _) hj
      unfold isStart at this
      rw [h1, h2] at this
      simp at this
    rw [seGo, hst]
    exact scan_none k (i + 1) (by omega) (by omega) fun j hj => h j (by omega)

theorem scan_first {word : Str} {rows : List Row} {p : Nat} (hp : isStart word rows p = true) (hpl : p + 1 < rows.length) : ∀ (k i : Nat), k = rows.length - i → i ≤ p → (∀ j, i ≤ j → j < p → isStart word rows j = false) → seGo word rows k i none 0 = seGo word rows (rows.length - (p + 1)) (p + 1) (some p) 0
  | 0, i, hk, hi, _ => by omega
  | k + 1, i, hk, hi, h => by
    rw [seGo]
    by_cases e : i = p
    · subst e
      unfold isStart at hp
      simp only [Bool.and_eq_true, decide_eq_true_eq] at hp
      have hst : seStep word rows i none 0 = .inl (some i, 0) := by
        simp only [seStep]
        rw [if_pos hp]
      rw [hst]
      have : k = rows.length - (i + 1) := by omega
      rw [this]
    · have hst : seStep word rows i none 0 = .inl (none, 0) := by
        simp only [seStep]
        rw [if_neg]
        intro q
        have := h i (Nat.le_refl _) (by omega)
        unfold isStart at this
        simp [q.1, q.2] at this
      rw [hst]
      exact scan_first hp hpl k (i + 1) (by omega) (by omega) fun j hj => h j (by omega)

theorem filter_range_head {f : Nat → Bool} {p : Nat} {pl : List Nat} : ∀ {n : Nat}, (List.range n).filter f = p :: pl → f p = true ∧ p < n ∧ ∀ j, j < p → f j = false := by
  intro n h
  have hf : (List.range n).find? f = some p := by
    rw [← List.head?_filter, h]; rfl
  rw [List.find?_range_eq_some] at hf
  obtain ⟨h1, h2, h3⟩ := hf
  exact ⟨h1, by simpa using h2, fun j hj => by simpa using h3 j hj⟩

/-- taking out neighbours tells what the level tells -/
theorem due_se (word : Str) (rows : List Row) : match placesL word rows with
    | [] => seRes word rows = (none, none)
    | p :: _ => match reduce rows.length (leftL rows (p + 1) (rows.length - (p + 1))) with
      | none => seRes word rows = (some p, none)
      | some e => ∃ j : Nat, seRes word rows = (some p, some j) ∧ e = (j : Int) + 1 := by
  cases hp : placesL word rows with
  | nil =>
    refine scan_none _ _ rfl (Nat.zero_le _) fun j _ hj => ?_
    have : j ∉ placesL word rows := by rw [hp]; simp
    unfold placesL at this
    rw [List.mem_filter] at this
    cases q : isStart word rows j with
    | false => rfl
    | true => exact absurd ⟨List.mem_range.mpr (by omega), q⟩ this
  | cons p pl =>
    obtain ⟨h1, h2, h3⟩ := filter_range_head hp
    have hpl : p + 1 < rows.length := by omega
    have first : seRes word rows = _ := scan_first h1 hpl rows.length 0 rfl (Nat.zero_le _) fun j _ hj => h3 j hj
    have hop : rows[p + 1]? = some opn := by unfold isStart at h1; simp at h1; exact h1.2
    obtain ⟨hs, hpos⟩ := scan_rows (word := word) (p := p) (rows.length - (p + 1)) (p + 1) 0 rfl (by omega) (.inr hop) (by omega)
    have hll := leftL_len rows (p + 1) (rows.length - (p + 1))
    have h0 : ∀ r, (leftL rows (p + 1) (rows.length - (p + 1)))[0]? = some r → isO r := by
      intro r hr
      have e1 : rows.length - (p + 1) = (rows.length - (p + 1) - 1) + 1 := by omega
      have hl : leftAt rows (p + 1) = some (((p + 1 : Nat) : Int), .inl "{") := by unfold leftAt; rw [hop]; simp
      rw [e1, leftL_succ, hl] at hr
      simp at hr
      subst hr; rfl
    have hred := reduce_scan rows.length _ (by omega) (leftL_brace rows (p + 1) (rows.length - (p + 1))) h0
    dsimp only
    rw [hred]
    rw [first, hs]
    cases hsc : lscan (leftL rows (p + 1) (rows.length - (p + 1))) 0 with
    | none => rfl
    | some e =>
      have := hpos e hsc
      exact ⟨(e - 1).toNat, rfl, by omega⟩
end Mine

namespace Mine

def lsIn (K : Frag) (a : Addr) : Option (List Value) := match K.lookup a with
  | some ⟨.type "list", none, .seq ⟨vs⟩ _, ⟨[]⟩⟩ => some vs
  | _ => none
theorem ls_in {K : Frag} {h : Heap} {a : Addr} {vs : List Value} (X : K.In h) (e : lsIn K a = some vs) : Ls h a vs := by
  unfold lsIn at e
  split at e
  · rename_i q
    cases e
    exact ⟨_, X _ _ q⟩
  · cases e
def isIntV : Value → Bool
  | .int _ _ => true
  | _ => false
def poolVs : List Value := [.ref 375, .ref 376, .ref 377, .ref 378, .ref 379, .ref 380, .ref 381, .ref 382, .ref 383, .ref 384, .ref 385, .ref 386, .ref 387, .ref 388]
def poolRows : List Row := [(1000, .inl "n"), (1000, .inl "m"), (1002, .inl "{"), (1002, .inl "}"), (1002, .inl "{"), (1002, .inl "}"), (1000, .inl "{"), (1002, .inl "n"), (1003, .inl "n"), (1070, .inr 1), (1000, .inl "nn"), (1000, .inl "n"), (1000, .inl ""), (1002, .inl "{")]
theorem k_pool (w : World) : lsIn (KK w) 389 = some poolVs := by kernel_rfl
theorem k_rows (w : World) : [rowIn (KK w) 375, rowIn (KK w) 376, rowIn (KK w) 377, rowIn (KK w) 378, rowIn (KK w) 379, rowIn (KK w) 380, rowIn (KK w) 381, rowIn (KK w) 382, rowIn (KK w) 383, rowIn (KK w) 384, rowIn (KK w) 385, rowIn (KK w) 386, rowIn (KK w) 387, rowIn (KK w) 388] = poolRows.map some := by kernel_rfl
theorem k_more (w : World) : ((lsIn (KK w) 397).map fun l => (l.all isIntV, l.length)) = some (true, 29) := by kernel_rfl
theorem pool_ok : ∀ r ∈ poolRows, okR r := by
  have : poolRows.all (fun r => (valD r.2).canLay0) = true := by decide +kernel
  intro r hr
  exact List.all_eq_true.mp this r hr
theorem pool_at {w : World} {h : Heap} (X : (KK w).In h) : RowsR h poolVs poolRows := by
  have e := k_rows w
  have ok := pool_ok
  unfold poolRows at e ok ⊢
  unfold poolVs
  simp only [List.map_cons, List.map_nil, List.cons.injEq, and_true] at e
  obtain ⟨e0, e1, e2, e3, e4, e5, e6, e7, e8, e9, e10, e11, e12, e13⟩ := e
  exact .cons (row_of X e0 (ok _ (by simp))) (.cons (row_of X e1 (ok _ (by simp))) (.cons (row_of X e2 (ok _ (by simp))) (.cons (row_of X e3 (ok _ (by simp))) (.cons (row_of X e4 (ok _ (by simp))) (.cons (row_of X e5 (ok _ (by simp))) (.cons (row_of X e6 (ok _ (by simp)))
    (.cons (row_of X e7 (ok _ (by simp))) (.cons (row_of X e8 (ok _ (by simp))) (.cons (row_of X e9 (ok _ (by simp))) (.cons (row_of X e10 (ok _ (by simp))) (.cons (row_of X e11 (ok _ (by simp))) (.cons (row_of X e12 (ok _ (by simp))) (.cons (row_of X e13 (ok _ (by simp))) .nil)))))))))))))

theorem ints_of : ∀ {vs : List Value}, vs.all isIntV = true → ∃ is, Paired IR vs is
  | [], _ => ⟨[], .nil⟩
  | v :: vs, h => by
    simp only [List.all_cons, Bool.and_eq_true] at h
    obtain ⟨is, hi⟩ := ints_of h.2
    cases v <;> first | (simp [isIntV] at h; done) | exact ⟨_ :: is, .cons ⟨_, rfl⟩ hi⟩
theorem intsAre_p : ∀ {vs : List Value} {ns : List Int}, IntsAre vs ns → Paired IR vs ns
  | _, _, .nil => .nil
  | _, _, .cons _ t r => .cons ⟨t, rfl⟩ (intsAre_p r)
theorem more_at {w : World} {h : Heap} (X : (KK w).In h) : ∃ vs is, Ls h 397 vs ∧ Paired IR vs is ∧ is.length = 29 := by
  have e := k_more w
  cases q : lsIn (KK w) 397 with
  | none => rw [q] at e; cases e
  | some vs =>
    rw [q] at e
    simp only [Option.map_some, Option.some.injEq, Prod.mk.injEq] at e
    obtain ⟨is, hi⟩ := ints_of e.1
    exact ⟨vs, is, ls_in X q, hi, by rw [← hi.length]; exact e.2⟩

abbrev lawEnv (L fa : Addr) (cd : Value) : Env := envOf "law" (scopeOfS (topSt 25)) L fa cd
def lawSt (i : Nat) : Stmt := (bodyOfS (topSt 25)).getD i (.Pass default)

section
variable {prog : Program} {w : World} {A : Around} {E : Value → Shared → Prop} {s : Shared} {env : Env}

theorem mod_i {a b : Int} {t u : Tok} {Q : Value → Shared → Prop} (hb : b ≠ 0) (h : ∀ s' v, Kp [] s s' → Q (.int (a.fmod b) v) s') : wpAny (model prog w) A (binaryOp .Mod (.int a t) (.int b u)) Q E s := PyProof.Rows.mod_int hb (h _ _ .tok)
theorem div_i {a b : Int} {t u : Tok} {Q : Value → Shared → Prop} (hb : b ≠ 0) (hl : Builtin.divisionGoesByPylong a b = false) (h : ∀ s' v, Kp [] s s' → Q (.int (a.fdiv b) v) s') : wpAny (model prog w) A (binaryOp .FloorDiv (.int a t) (.int b u)) Q E s := floordiv_int hb (h _ _ .tok) (.inl hl)

/-- list(e), e a list -/
theorem ev_list {e : Expr} {p₁ p₃ : Pos} {Q : Value → Shared → Prop} (T : Top0 w s.heap)
    (h : wpAny (model prog w) A (eval e env) (fun v s₁ => ∃ a ys, v = .ref a ∧ s₁.heap.IsList a (List.toArray ys) ∧ ys.length ≤ sizeLine ∧ ∀ s' D, Kp [] s₁ s' → s₁.heap.get? D = none → Ls s'.heap D ys → Q (.ref D) s') E s) (hk : env.scope.kind = .function := by rfl)
    (hx : env.kindOf "list" = some .globalImplicit := by rfl) (hg : env.globals = mainGlobals := by rfl) (hb : env.builtins = builtinsNs := by rfl) (hs : starEach [e] env = (false, eval e env) :: starEach [] env := by rfl) :
    wpAny (model prog w) A (eval (.Call (.Name "list" p₁) [e] [] p₃) env) Q E s := by
  refine Call_Name rfl (nm_b T (g_list w) PyProof.Rows.Boot.«list» (PyProof.Rows.callWith_type1 (spliced_more (wpAny_mono h (fun v s₁ h₁ => ?_) fun _ _ e => e) hs) hs rfl) (by decide) hk hx hg hb)
  obtain ⟨a, ys, rfl, ⟨o, ho, hc, n, hd⟩, hsz, hq⟩ := h₁
  refine spliced_none (call_list_seq a (.inl rfl) ho hc hd (fun h' c' k hD => ?_) (by simpa using hsz))
  exact hq _ _ (.of k) fresh_size ⟨_, hD⟩

def names3 (nm : Str) : Prop := nm = "n" ∨ nm = "m" ∨ nm = ""
theorem names3_ok {nm : Str} (h : names3 nm) : okR (1000, .inl nm) := by rcases h with rfl | rfl | rfl <;> (unfold okR; decide +kernel)
theorem names3_len {nm : Str} (h : names3 nm) : nm.length < 100 := by rcases h with rfl | rfl | rfl <;> decide +kernel

/-- the law's first lines -/
structure LawA (w : World) (s₀ : Shared) (L : Addr) (nl il : Addr) (nvs ivs : List Value) (nums : List Int) (inner : List Row) (first : Int) (c : Nat) (nm : Str) (m : Str → Option Value) (s : Shared) : Prop where
  kp : Kp [] s₀ s
  ns : s.heap.Ns L m
  mf : ∃ t, m "first" = some (.int first t)
  mc : ∃ t, m "count" = some (.int (c : Int) t)
  mn : ∃ t, m "name" = some (.str nm t)
  mu : m "numbers" = some (.ref nl)
  mi : m "inner" = some (.ref il)
  nl : Ls s.heap nl nvs
  nr : Paired IR nvs nums
  nlen : 29 ≤ nums.length ∧ nums.length ≤ 100
  il : Ls s.heap il ivs
  ir : RowsR s.heap ivs inner
  ilen : inner.length ≤ 10
  clen : c ≤ 20
  nm3 : names3 nm
end
end Mine

namespace Mine

theorem fmod_nat (a : Int) (b : Nat) (hb : 0 < b) : ∃ c : Nat, a.fmod b = c ∧ c < b := by
  have h1 : 0 ≤ a.fmod b := Int.fmod_nonneg_of_pos a (by omega)
  have h2 : a.fmod b < b := Int.fmod_lt_of_pos a (by omega)
  exact ⟨(a.fmod b).toNat, by omega, by omega⟩

section
variable {prog : Program} {w : World} {A : Around} {E : Value → Shared → Prop} {s : Shared} {env : Env} {s₀ : Shared} {L fa : Addr} {cd : Value} {n : Nat}

theorem law_inner {E : Value → Shared → Prop} {Q : Flow → Shared → Prop} {m : Str → Option Value} {nl : Addr} {nvs : List Value} {nums : List Int} {c : Nat} {first : Int} (T : Top0 w s₀.heap) (r : Room A (n + 6)) (hL : s₀.heap.get? L = none) (k : Kp [] s₀ s) (hn : s.heap.Ns L m)
    (mu : m "numbers" = some (.ref nl)) (mc : ∃ t, m "count" = some (.int (c : Int) t)) (mf : ∃ t, m "first" = some (.int first t)) (hnl : Ls s.heap nl nvs) (nr : Paired IR nvs nums) (hlen : 29 ≤ nums.length ∧ nums.length ≤ 100) (hc : c ≤ 20)
    (h : ∀ s' il ivs inner, Kp [L] s s' → s.heap.get? il = none → Ls s'.heap il ivs → RowsR s'.heap ivs inner → inner.length ≤ 10 → s'.heap.Ns L (fun z => if z = ("inner" : Str) then some (.ref il) else m z) → Q .next s') :
    wpAny (model prog w) A (exec (lawSt 4) (lawEnv L fa cd)) Q E s := by
  obtain ⟨tc, mc⟩ := mc
  obtain ⟨tf, mf⟩ := mf
  have hlt := sizeLine_lt
  have hsl : (1000 : Nat) ≤ sizeLine := by rw [sizeLine_eq]; decide
  have hnvl : nvs.length = nums.length := nr.length
  have Ts := k.top T
  refine comp_assign (cl := []) rfl rfl (by decide) rfl (by decide) rfl rfl rfl ?_
  refine Subscript_ (nm_l hn mu (ev_slice (wpAny_BinOp (ev_int fun s₁ u₁ k₁ => nm_l (k₁.ns0 hn) mc (add_i fun s₂ u₂ k₂ => ?_)))))
  have k02 := k₁.then k₂
  refine wpAny_BinOp (wpAny_BinOp (ev_int fun s₃ u₃ k₃ => nm_l ((k02.then k₃).ns0 hn) mc (add_i fun s₄ u₄ k₄ => ?_)))
  have k04 := (k02.then k₃).then k₄
  refine wpAny_BinOp (wpAny_BinOp (nm_l (k04.ns0 hn) mf (ev_int fun s₅ u₅ k₅ => div_i (by decide) (PyProof.noPylong_of_log2 (by decide +kernel)) fun s₆ u₆ k₆ => ?_)))
  have k06 := (k04.then k₅).then k₆
  refine ev_int fun s₇ u₇ k₇ => mod_i (by decide) fun s₈ u₈ k₈ => add_i fun s₉ u₉ k₉ s₁₀ sl k₁₀ hsl => ?_
  have k010 := (((k06.then k₇).then k₈).then k₉).then k₁₀
  obtain ⟨e, he, hel⟩ := fmod_nat (first.fdiv 63) 5 (by decide)
  have he' : (1 : Int) + (c : Int) + (first.fdiv 63).fmod 5 = ((1 + c + e : Nat) : Int) := by
    have : (first.fdiv 63).fmod 5 = (e : Int) := he
    omega
  have hc' : (1 : Int) + (c : Int) = ((1 + c : Nat) : Int) := by omega
  rw [he', hc'] at hsl
  refine ls_slice (hnl.keeps k010.ext) (by omega) hsl (.int _ _) (.int _ _) (slicePick_run _ (1 + c) (1 + c + e) (by simp; omega) (by omega)) fun s₁₁ D k₁₁ fD lD => ?_
  have k011 := k010.then k₁₁
  have hps : Paired IR ((nvs.drop (1 + c)).take (1 + c + e - (1 + c))) ((nums.drop (1 + c)).take (1 + c + e - (1 + c))) := Paired.take _ (Paired.drop _ nr)
  have hpl : ((nums.drop (1 + c)).take (1 + c + e - (1 + c))).length ≤ 10 := by simp; omega
  rw [List.toList_toArray] at lD
  generalize (nvs.drop (1 + c)).take (1 + c + e - (1 + c)) = pvs at lD hps
  generalize (nums.drop (1 + c)).take (1 + c + e - (1 + c)) = pns at hps hpl
  have hpvl : pvs.length = pns.length := hps.length
  have T₁₁ := k011.top Ts
  refine seq_iter T₁₁ (items := pvs.toArray) (.inr (by obtain ⟨c, e⟩ := lD; exact ⟨_, c, e, rfl, rfl⟩)) fun s₁₂ I k₁₂ hI it at₂ => ?_
  have k012 := k011.then k₁₂
  have hDI : D ≠ I := fun q => by obtain ⟨c, e⟩ := lD; rw [q, hI] at e; cases e
  have hIL : L ≠ I := Ne.symm (Ns.ne (k011.ns0 hn) hI)
  refine ⟨m, k012.ns0 hn, fun I' e => by cases e; exact Ne.symm hIL, I, [I, D], pvs.toArray.size, _, _, s₀.heap, fun i xs _ => ∃ rs, rs.length = i ∧ RowsR s₀.heap xs rs, rfl, walksSeq r.hd I D hDI pvs.toArray, by simp; omega, ⟨it, at₂⟩, ?_, ?_, (k.then k012).ext, ext_fresh (k.then k011).ext hI, ⟨[], rfl, .nil⟩, ?_, ?_⟩
  · intro b hb
    rcases List.mem_cons.mp hb with rfl | hb
    · obtain ⟨o, e, _⟩ := it; exact Heap.lt_size e
    · rcases List.mem_cons.mp hb with rfl | hb
      · obtain ⟨o, m, e, _⟩ := at₂; exact Heap.lt_size e
      · cases hb
  · intro i h st
    obtain ⟨o, e, _⟩ := st.1
    exact ⟨o, e⟩
  · rintro C Dd hC hD i v s₁₃ m₁ xs B hi hP hB hBs hoff hDs hIs hC₃ hx ⟨rs, hrs, hJ⟩
    obtain ⟨x, hx', tx, rfl⟩ := Paired.get' hps (show pvs[i]? = some v by simpa using hP)
    have T₃ := T.keeps (ext_tr hB hBs)
    refine wpAny_pure ⟨.refl, ?_⟩
    rw [if_pos rfl]
    refine Subscript_ (nm_g T₃ (g_pool w) (wpAny_BinOp (nm_l hC₃ hx (ev_int fun s₁₄ u₁₄ k₁₄ => mod_i (by decide) fun s₁₅ u₁₅ k₁₅ => ?_))))
    have kk := k₁₄.then k₁₅
    obtain ⟨j, hj, hjl⟩ := fmod_nat x 14 (by decide)
    have hj' : x.fmod 14 = (j : Int) := hj
    rw [hj']
    obtain ⟨pv, hpv, hpr⟩ := Paired.get (pool_at T.K) (show poolRows[j]? = some poolRows[j] by simp [poolRows, hjl])
    refine ls_at ((ls_in T₃.K (k_pool w)).keeps kk.ext) (by simp [poolVs]; omega) hpv ⟨kk, fun B' e _ => ⟨rs ++ [poolRows[j]], by simp [hrs], ?_⟩⟩
    exact Paired.snoc hJ hpr
  · rintro s' F cc xs B kF hF hF' hB' hBs hFB ⟨rs, hrs, hJ⟩ hns
    have hIf : s.heap.get? I = none := k011.fresh hI
    have sz : pvs.toArray.size = pns.length := by simpa using hpvl
    have hBL : RowsR s'.heap xs rs := hJ.keeps ((k.then k012).loc kF (by simp; exact ⟨k.fresh hIf, hL⟩)).ext
    exact h s' F xs rs (k012.loc'' kF hIf) (k012.fresh hF) ⟨cc, hF'⟩ hBL (by omega) hns

theorem law_A {vs : List Value} {ns : List Int} {l : Addr} {m : Str → Option Value} {Q : Flow → Shared → Prop} (T : Top0 w s₀.heap) (r : Room A (n + 6)) (hL : s₀.heap.get? L = none) (k : Kp [] s₀ s) (hn : s.heap.Ns L m) (ms : m "script" = some (.ref l)) (hl : s₀.heap.IsList l vs.toArray) (hi : IntsAre vs ns) (hlen : ns.length ≤ 63)
    (h : ∀ s' nl il nvs ivs nums inner first c nm m, LawA w s₀ L nl il nvs ivs nums inner first c nm m s' → wpAny (model prog w) A (execs ((bodyOfS (topSt 25)).drop 5) (lawEnv L fa cd)) Q E s') :
    wpAny (model prog w) A (execs (bodyOfS (topSt 25)) (lawEnv L fa cd)) Q E s := by
  have hsl : (1000 : Nat) ≤ sizeLine := by rw [sizeLine_eq]; decide
  have hvl : vs.length = ns.length := (intsAre_p hi).length
  have Ts := k.top T
  obtain ⟨mvs, mis, lm, mi, mlen⟩ := more_at T.K
  have hml : mvs.length = mis.length := mi.length
  refine wpAny_execs_cons (asg (wpAny_BinOp (ev_list Ts (nm_l hn ms ⟨l, vs, rfl, hl.imp fun o e => ⟨k.ext _ _ e.1, e.2⟩, by omega, fun s₁ D k₁ fD lD => nm_g (k₁.top Ts) (g_more w) (ls_add lD (lm.keeps (k.then k₁).ext) (by omega) fun s₂ nl k₂ fnl lnl => ⟨m, (k₁.then k₂).ns0 hn, fun s₃ k₃ n₃ => ?_⟩)⟩))))
  have nr : Paired IR (vs ++ mvs) (ns ++ mis) := Paired.app (intsAre_p hi) mi
  have nlen : 29 ≤ (ns ++ mis).length ∧ (ns ++ mis).length ≤ 100 := by simp; omega
  generalize vs ++ mvs = nvs at lnl nr
  generalize ns ++ mis = nums at nr nlen
  have hnvl : nvs.length = nums.length := nr.length
  have nnL : nl ≠ L := fun q => Ns.ne (k₁.ns0 hn) (q ▸ fnl) rfl
  have l₃ : Ls s₃.heap nl nvs := lnl.but k₃.keep (ni nnL)
  have k03 := (k.then (k₁.then k₂)).loc1 k₃ hL
  obtain ⟨v0, hv0, t0, rfl⟩ := Paired.get nr (show nums[0]? = some nums[0] by simp)
  -- first
  refine wpAny_execs_cons (asg (Subscript_ (nm_l n₃ (if_pos rfl) (ev_int fun s₄ u₄ k₄ => ls_at (i := 0) (l₃.keeps k₄.ext) (by omega) hv0 ⟨_, k₄.ns0 n₃, fun s₅ k₅ n₅ => ?_⟩))))
  have l₅ : Ls s₅.heap nl nvs := (l₃.keeps k₄.ext).but k₅.keep (ni nnL)
  have k05 := (k03.then k₄).loc1 k₅ hL
  generalize nums[0] = first at n₅
  -- count
  obtain ⟨c, hc, hcl⟩ := fmod_nat first 21 (by decide)
  have hc' : first.fmod 21 = (c : Int) := hc
  refine wpAny_execs_cons (asg (wpAny_BinOp (nm_l n₅ (if_pos rfl) (ev_int fun s₆ u₆ k₆ => mod_i (by decide) fun s₇ u₇ k₇ => ⟨_, (k₆.then k₇).ns0 n₅, fun s₈ k₈ n₈ => ?_⟩))))
  have l₈ : Ls s₈.heap nl nvs := (l₅.keeps (k₆.then k₇).ext).but k₈.keep (ni nnL)
  have k08 := (k05.then (k₆.then k₇)).loc1 k₈ hL
  rw [hc'] at n₈
  -- name
  refine wpAny_execs_cons (asg (Subscript_ (List_ (spliced_more (ev_str fun s₉ t₉ k₉ => spliced_more (ev_str fun s₁₀ t₁₀ k₁₀ => spliced_more (ev_str fun s₁₁ t₁₁ k₁₁ => spliced_none (wpAny_newObj_type ?_))))))))
  have kN := ((k₉.then k₁₀).then k₁₁).then (Kp.push (s := s₁₁) (l := []) (o := { cls := .type "list", dict := none, data := .seq [Value.str "n" t₉, .str "m" t₁₀, .str "" t₁₁].toArray }))
  have lN : Ls (s₁₁.heap.push { cls := .type "list", dict := none, data := .seq [Value.str "n" t₉, .str "m" t₁₀, .str "" t₁₁].toArray }) s₁₁.heap.objs.size [Value.str "n" t₉, .str "m" t₁₀, .str "" t₁₁] := ⟨0, Heap.get?_push_size _ rfl⟩
  have nN := kN.ns0 n₈
  obtain ⟨j, hj, hjl⟩ := fmod_nat (first.fdiv 21) 3 (by decide)
  have hj' : (first.fdiv 21).fmod 3 = (j : Int) := hj
  obtain ⟨nm, tn, hnm, h3⟩ : ∃ nm tn, [Value.str "n" t₉, .str "m" t₁₀, .str "" t₁₁][j]? = some (.str nm tn) ∧ names3 nm := by
    match j, hjl with
    | 0, _ => exact ⟨_, _, rfl, .inl rfl⟩
    | 1, _ => exact ⟨_, _, rfl, .inr (.inl rfl)⟩
    | 2, _ => exact ⟨_, _, rfl, .inr (.inr rfl)⟩
  refine wpAny_BinOp (wpAny_BinOp (nm_l nN (by rw [if_neg (by decide)]; exact if_pos rfl) (ev_int fun s₁₃ u₁₃ k₁₃ => div_i (by decide) (PyProof.noPylong_of_log2 (by decide +kernel)) fun s₁₄ u₁₄ k₁₄ => ev_int fun s₁₅ u₁₅ k₁₅ => mod_i (by decide) fun s₁₆ u₁₆ k₁₆ => ?_)))
  rw [hj']
  have kM := ((k₁₃.then k₁₄).then k₁₅).then k₁₆
  have k816 := kN.then kM
  refine ls_at (lN.keeps kM.ext) (by simp; omega) hnm ⟨_, k816.ns0 n₈, fun s₁₇ k₁₇ n₁₇ => ?_⟩
  have l₁₇ : Ls s₁₇.heap nl nvs := (l₈.keeps k816.ext).but k₁₇.keep (ni nnL)
  have k017 := (k08.then k816).loc1 k₁₇ hL
  refine wpAny_execs_cons (law_inner T r hL k017 n₁₇ (by rw [if_neg (by decide), if_neg (by decide), if_neg (by decide)]; exact if_pos rfl) ⟨_, by rw [if_neg (by decide)]; exact if_pos rfl⟩ ⟨_, by rw [if_neg (by decide), if_neg (by decide)]; exact if_pos rfl⟩ l₁₇ nr nlen (by omega) fun s' il ivs inner kI fI lI rI hI nI => ?_)
  refine h s' nl il nvs ivs nums inner first c nm _ ⟨k017.loc1 kI hL, nI, ?_, ?_, ?_, ?_, if_pos rfl, l₁₇.but kI.keep (ni nnL), nr, nlen, lI, rI, hI, by omega, h3⟩
  · exact ⟨_, by rw [if_neg (by decide), if_neg (by decide), if_neg (by decide)]; exact if_pos rfl⟩
  · exact ⟨_, by rw [if_neg (by decide), if_neg (by decide)]; exact if_pos rfl⟩
  · exact ⟨_, by rw [if_neg (by decide)]; exact if_pos rfl⟩
  · rw [if_neg (by decide), if_neg (by decide), if_neg (by decide), if_neg (by decide)]; exact if_pos rfl
end
end Mine

namespace Mine

section
variable {prog : Program} {w : World} {A : Around} {E : Value → Shared → Prop} {s : Shared} {env : Env} {s₀ : Shared} {L fa : Addr} {cd : Value} {n : Nat}

/-- l.append(e), l a list -/
theorem lappend {o : Expr} {e : Expr} {apos pos : Pos} {pl : Sem Bool} {Q : Value → Shared → Prop}
    (h : wpAny (model prog w) A (eval o env) (fun ov s₁ => ∃ a ys, ov = .ref a ∧ Ls s₁.heap a ys ∧ ys.length ≤ sizeLine ∧ wpAny (model prog w) A (eval e env) (fun v s₂ => Ls s₂.heap a ys ∧
      ∀ s₃, Kp [a] s₂ s₃ → Ls s₃.heap a (ys ++ [v]) → Q .none s₃) E s₁) E s)
    (he : eval (.Call (.Attribute o "append" apos) [e] [] pos) env = (do
      let ov ← eval o env
      standAt apos.atName
      let (f, first) ← holding [ov] (getMethod ov "append" pl)
      callWith pos f first (backTo pos (starEach [e] env)) []) := by rfl)
    (hst : starEach [e] env = (false, eval e env) :: starEach [] env := by rfl) :
    wpAny (model prog w) A (eval (.Call (.Attribute o "append" apos) [e] [] pos) env) Q E s := by
  refine MethodCall_ (wpAny_mono h (fun ov s₁ h₁ => ?_) fun _ _ e => e) he
  obtain ⟨a, ys, rfl, ⟨c, l⟩, hsz, h₁⟩ := h₁
  refine getMethod_list_append l rfl rfl ?_
  refine callWith_method1 (spliced_more (wpAny_mono h₁ (fun v s₂ h₂ => spliced_none ?_) fun _ _ e => e) hst) hst rfl
  obtain ⟨⟨c₂, l₂⟩, hq⟩ := h₂
  refine wpAny_list_append_plain (items := ys.toArray) ⟨c₂, l₂⟩ (fun h' hl' sb => ?_) (by simpa using hsz)
  obtain ⟨c', hl'⟩ := hl'
  exact hq { s₂ with heap := h' } (.ofBut fun b o hb e => sb.extBut b o (by simpa using hb) e) ⟨c', by simpa using hl'⟩

/-- what the law's names of the first lines say -/
structure NmA (nl il : Addr) (first : Int) (c : Nat) (nm : Str) (m : Str → Option Value) : Prop where
  mf : ∃ t, m "first" = some (.int first t)
  mc : ∃ t, m "count" = some (.int (c : Int) t)
  mn : ∃ t, m "name" = some (.str nm t)
  mu : m "numbers" = some (.ref nl)
  mi : m "inner" = some (.ref il)
theorem NmA.set {nl il : Addr} {first : Int} {c : Nat} {nm : Str} {m : Str → Option Value} (M : NmA nl il first c nm m) {x : Str} {v : Value} (h1 : x ≠ "first") (h2 : x ≠ "count") (h3 : x ≠ "name") (h4 : x ≠ "numbers") (h5 : x ≠ "inner") :
    NmA nl il first c nm (fun z => if z = x then some v else m z) := by
  obtain ⟨⟨t1, e1⟩, ⟨t2, e2⟩, ⟨t3, e3⟩, e4, e5⟩ := M
  exact ⟨⟨t1, by rw [if_neg (Ne.symm h1)]; exact e1⟩, ⟨t2, by rw [if_neg (Ne.symm h2)]; exact e2⟩, ⟨t3, by rw [if_neg (Ne.symm h3)]; exact e3⟩, by rw [if_neg (Ne.symm h4)]; exact e4, by rw [if_neg (Ne.symm h5)]; exact e5⟩

def MixJ (w : World) (B₁ : Heap) (s₀ : Shared) (L I mx nl il : Addr) (first : Int) (c : Nat) (nm : Str) (i : Nat) (s : Shared) : Prop :=
  ∃ m B mvs mrows, Kp [] s₀ s ∧ s.heap.Ns L m ∧ NmA nl il first c nm m ∧ m "mix" = some (.ref mx) ∧ Ext B₁ B ∧ Ext B s.heap ∧ B.get? L = none ∧ B.get? mx = none ∧ B.get? I = none ∧ Ls s.heap mx mvs ∧ TagsR B mvs mrows ∧ mrows.length = i

theorem hide3 {B h : Heap} {l : List Addr} (k : Ext B h) (e : ∀ b ∈ l, B.get? b = none) : Ext B (hideAll h l) := fun b o q => hideAll_get _ (k _ _ q) (fun hm => by rw [e b hm] at q; cases q)

theorem law_mix {Q : Flow → Shared → Prop} {m : Str → Option Value} {nl il : Addr} {nvs ivs : List Value} {nums : List Int} {inner : List Row} {first : Int} {c : Nat} {nm : Str} (T : Top0 w s₀.heap) (r : Room A (n + 6)) (hL : s₀.heap.get? L = none)
    (D : LawA w s₀ L nl il nvs ivs nums inner first c nm m s)
    (h : ∀ s' m' B mx mvs mrows, Kp [] s₀ s' → s'.heap.Ns L m' → NmA nl il first c nm m' → m' "mix" = some (.ref mx) → Ext (hideAll s.heap [L]) B → Ext B s'.heap → B.get? L = none → B.get? mx = none → Ls s'.heap mx mvs → TagsR B mvs mrows → mrows.length ≤ 20 →
      wpAny (model prog w) A (execs ((bodyOfS (topSt 25)).drop 7) (lawEnv L fa cd)) Q E s') :
    wpAny (model prog w) A (execs ((bodyOfS (topSt 25)).drop 5) (lawEnv L fa cd)) Q E s := by
  have hsl : (1000 : Nat) ≤ sizeLine := by rw [sizeLine_eq]; decide
  have hnvl : nvs.length = nums.length := D.nr.length
  have hnl2 := D.nlen
  have hcl := D.clen
  have hn := D.ns
  obtain ⟨tc, mc⟩ := D.mc
  have Ts := D.kp.top T
  -- mix = []
  refine wpAny_execs_cons (asg (List_ (spliced_none (wpAny_newObj_type ?_))))
  have kX : Kp [] s { s with heap := s.heap.push { cls := .type "list", dict := none, data := .seq ([] : List Value).toArray } } := .push
  have lX : Ls ({ s with heap := s.heap.push { cls := .type "list", dict := none, data := .seq ([] : List Value).toArray } } : Shared).heap s.heap.objs.size [] := ⟨0, Heap.get?_push_size _ rfl⟩
  have fX : s.heap.get? s.heap.objs.size = none := fresh_size
  generalize s.heap.objs.size = mx at lX fX ⊢
  generalize ({ s with heap := s.heap.push { cls := .type "list", dict := none, data := .seq ([] : List Value).toArray } } : Shared) = s₁ at kX lX ⊢
  refine ⟨m, kX.ns0 hn, fun s₂ k₂ n₂ => ?_⟩
  have mxL : mx ≠ L := Ns.ne hn fX
  have k02 := (D.kp.then kX).loc1 k₂ hL
  have lX₂ : Ls s₂.heap mx [] := lX.but k₂.keep (ni mxL)
  have N₂ : NmA nl il first c nm _ := NmA.set ⟨D.mf, D.mc, D.mn, D.mu, D.mi⟩ (x := "mix") (v := .ref mx) (by decide) (by decide) (by decide) (by decide) (by decide)
  have M₂ : (fun z => if z = ("mix" : Str) then some (Value.ref mx) else m z) "mix" = some (.ref mx) := if_pos rfl
  generalize (fun z => if z = ("mix" : Str) then some (Value.ref mx) else m z) = m₂ at n₂ N₂ M₂
  have e₁ : Ext (hideAll s.heap [L]) s₂.heap := (ext_tr ext_of_hide kX.ext).loc hide_none k₂
  have nlL : nl ≠ L := fun q => by obtain ⟨c, e⟩ := D.nl; obtain ⟨o, _, _, ho, hd, _⟩ := hn; rw [q, ho] at e; cases e; cases hd
  have hnl₂ : Ls s₂.heap nl nvs := (D.nl.keeps kX.ext).but k₂.keep (ni nlL)
  have T₂ := k02.top T
  obtain ⟨tc, mc⟩ := N₂.mc
  refine wpAny_execs_cons (wpAny_For (Subscript_ (nm_l n₂ N₂.mu (ev_slice (ev_int fun s₃ u₃ k₃ => wpAny_BinOp (ev_int fun s₄ u₄ k₄ => nm_l ((k₃.then k₄).ns0 n₂) mc (add_i fun s₅ u₅ k₅ s₆ sl k₆ hsl' => ?_)))))))
  have k26 := ((k₃.then k₄).then k₅).then k₆
  have hc' : (1 : Int) + (c : Int) = ((1 + c : Nat) : Int) := by omega
  rw [hc'] at hsl'
  refine ls_slice (hnl₂.keeps k26.ext) (by omega) hsl' (.int ((1 : Nat) : Int) _) (.int _ _) (slicePick_run _ 1 (1 + c) (by simp; omega) (by omega)) fun s₇ Dl k₇ fD lD => ?_
  have k27 := k26.then k₇
  have hps : Paired IR ((nvs.drop 1).take (1 + c - 1)) ((nums.drop 1).take (1 + c - 1)) := Paired.take _ (Paired.drop _ D.nr)
  have hpl : ((nums.drop 1).take (1 + c - 1)).length ≤ 20 := by simp; omega
  rw [List.toList_toArray] at lD
  generalize (nvs.drop 1).take (1 + c - 1) = pvs at lD hps
  generalize (nums.drop 1).take (1 + c - 1) = pns at hps hpl
  have hpvl : pvs.length = pns.length := hps.length
  refine seq_iter (k27.top T₂) (items := pvs.toArray) (.inr (by obtain ⟨c, e⟩ := lD; exact ⟨_, c, e, rfl, rfl⟩)) fun s₈ I k₈ hI it at₂ => ?_
  have k28 := k27.then k₈
  have hDI : Dl ≠ I := fun q => by obtain ⟨c, e⟩ := lD; rw [q, hI] at e; cases e
  have hIL : L ≠ I := Ne.symm (Ns.ne (k27.ns0 n₂) hI)
  have hDL : L ≠ Dl := Ne.symm (Ns.ne (k26.ns0 n₂) fD)
  have mxI : mx ≠ I := fun q => by obtain ⟨c, e⟩ := lX₂.keeps k27.ext; rw [q, hI] at e; cases e
  have mxD : mx ≠ Dl := fun q => by obtain ⟨c, e⟩ := lX₂.keeps k26.ext; rw [q, fD] at e; cases e
  refine for_loop (walksSeq r.hd I Dl hDI pvs.toArray) (MixJ w (hideAll s.heap [L]) s₀ L I mx nl il first c nm) (by simp; exact ⟨hIL, hDL⟩) ⟨it, at₂⟩ ?_ ?_ ?_ ?_
  · refine ⟨m₂, hideAll s.heap [L], [], [], k02.then k28, k28.ns0 n₂, N₂, M₂, fun _ _ e => e, ext_tr e₁ k28.ext, hide_none, ext_fresh ext_of_hide fX, ext_fresh (ext_tr e₁ k27.ext) hI, lX₂.keeps k28.ext, .nil, rfl⟩
  · rintro i s' ⟨m', _, _, _, _, hn', _⟩; exact ⟨m', hn'⟩
  · rintro i v sa sb E' hi hP ⟨ma, B, mvs, mrows, ka, na, Na, Ma, eB1, eB, bL, bX, bI, lx, tx, hlen⟩ kb hstore hst
    obtain ⟨x, hx', tx', rfl⟩ := Paired.get' hps (show pvs[i]? = some v by simpa using hP)
    have hi' : i < pns.length := by rw [← hpvl]; simpa using hi
    have nb := hstore ma na
    have hIf : s₀.heap.get? I = none := (k02.then k27).fresh hI
    have k0b : Kp [] s₀ sb := ka.loc kb (by simp; exact ⟨hIf, hL⟩)
    have eBb : Ext B sb.heap := fun b o e => kb.keep b o (by simp only [List.mem_cons, List.not_mem_nil, or_false, not_or]; exact ⟨fun q => by rw [q, bI] at e; (cases e), fun q => by rw [q] at e; exact absurd (bL.symm.trans e) (by simp)⟩) (eB b o e)
    have lxb : Ls sb.heap mx mvs := lx.but kb.keep (by simp; exact ⟨mxI, mxL⟩)
    have Tb := k0b.top T
    -- row = _law_pool[number % 14]
    refine wpAny_execs_cons (asg (Subscript_ (nm_g Tb (g_pool w) (wpAny_BinOp (nm_l nb (if_pos rfl) (ev_int fun sc uc kc => mod_i (by decide) fun sd ud kd => ?_))))))
    have kbd := kc.then kd
    obtain ⟨j, hj, hjl⟩ := fmod_nat x 14 (by decide)
    have hj' : x.fmod 14 = (j : Int) := hj
    rw [hj']
    obtain ⟨pv, hpv, hpr⟩ := Paired.get (pool_at T.K) (show poolRows[j]? = some poolRows[j] by simp [poolRows, hjl])
    refine ls_at ((ls_in Tb.K (k_pool w)).keeps kbd.ext) (by simp [poolVs]; omega) hpv ⟨_, kbd.ns0 nb, fun se ke ne => ?_⟩
    have k0e : Kp [] s₀ se := (k0b.then kbd).loc1 ke hL
    have eBe : Ext B se.heap := (ext_tr eBb kbd.ext).loc bL ke
    have lxe : Ls se.heap mx mvs := (lxb.keeps kbd.ext).but ke.keep (ni mxL)
    have Te := k0e.top T
    have he : SeqAt se.heap Dl pvs.toArray := (hst.2.at fun o e => kbd.ext _ _ e).at fun o e => ke.keep _ _ (ni (Ne.symm hDL)) e
    have hie : se.heap.IsListIter I Dl (i + 1) := (hst.1.at fun o e => kbd.ext _ _ e).at fun o e => ke.keep _ _ (ni (Ne.symm hIL)) e
    have Ne : NmA nl il first c nm _ := (Na.set (x := "number") (v := .int x tx') (by decide) (by decide) (by decide) (by decide) (by decide)).set (x := "row") (v := pv) (by decide) (by decide) (by decide) (by decide) (by decide)
    have Me : (fun z => if z = ("row" : Str) then some pv else if z = ("number" : Str) then some (Value.int x tx') else ma z) "mix" = some (.ref mx) := by
      show (if _ then _ else _) = _
      rw [if_neg (by decide), if_neg (by decide)]; exact Ma
    have Re : (fun z => if z = ("row" : Str) then some pv else if z = ("number" : Str) then some (Value.int x tx') else ma z) "row" = some pv := if_pos rfl
    have Ue : (fun z => if z = ("row" : Str) then some pv else if z = ("number" : Str) then some (Value.int x tx') else ma z) "number" = some (Value.int x tx') := by
      show (if _ then _ else _) = _
      rw [if_neg (by decide)]; exact if_pos rfl
    generalize (fun z => if z = ("row" : Str) then some pv else if z = ("number" : Str) then some (Value.int x tx') else ma z) = me at ne Ne Me Re Ue
    have hLe : ∃ o, se.heap.get? L = some o := by obtain ⟨o, _, _, e, _⟩ := ne; exact ⟨o, e⟩
    have hIe : ∃ o, se.heap.get? I = some o := by obtain ⟨o, e, _⟩ := hie; exact ⟨o, e⟩
    have hXe : ∃ o, se.heap.get? mx = some o := by obtain ⟨c, e⟩ := lxe; exact ⟨_, e⟩
    -- the tail: the row put in
    have fin : ∀ v sf, Kp [] se sf → RowR (hideAll sf.heap [L, mx, I]) v poolRows[j] → Ls sf.heap mx mvs ∧ ∀ sg, Kp [mx] sf sg → Ls sg.heap mx (mvs ++ [v]) → (sg.heap.IsListIter I Dl (i + 1) ∧ SeqAt sg.heap Dl pvs.toArray) ∧ MixJ w (hideAll s.heap [L]) s₀ L I mx nl il first c nm (i + 1) sg := by
      intro v sf kf hv
      refine ⟨lxe.keeps kf.ext, fun sg kg lg => ⟨⟨?_, ?_⟩, me, hideAll sf.heap [L, mx, I], mvs ++ [v], mrows ++ [poolRows[j]], ?_, ?_, Ne, Me, ?_, ?_, hideAll_none _ (by simp), hideAll_none _ (by simp), hideAll_none _ (by simp), lg, ?_, by simp [hlen]⟩⟩
      · exact (hie.at fun o e => kf.ext _ _ e).at fun o e => kg.keep _ _ (ni (_root_.Ne.symm mxI)) e
      · exact (he.at fun o e => kf.ext _ _ e).at fun o e => kg.keep _ _ (ni (_root_.Ne.symm mxD)) e
      · exact (k0e.then kf).loc1 kg (D.kp.fresh fX)
      · exact kg.ns (kf.ns0 ne) (ni (_root_.Ne.symm mxL))
      · exact ext_tr eB1 (hide3 (ext_tr eBe kf.ext) (by simp; exact ⟨bL, bX, bI⟩))
      · exact fun b o e => kg.keep _ _ (ni fun q => by rw [q, hideAll_none _ (by simp)] at e; cases e) (of_hideAll _ e)
      · exact Paired.snoc (tx.keeps (hide3 (ext_tr eBe kf.ext) (by simp; exact ⟨bL, bX, bI⟩))) hv
    have hprs : TupR se.heap pv poolRows[j] := hpr.keeps k0e.ext
    refine wpAny_execs_cons (wpAny_Expr_any (lappend (nm_l ne Me ⟨mx, mvs, rfl, lxe, by have := tx.length; omega, ?_⟩)))
    refine wpAny_IfExp (wpAny_isTrue_Compare1 (wpAny_BinOp (wpAny_BinOp (nm_l ne Ue (ev_int fun s1 u1 k1 => div_i (by decide) (PyProof.noPylong_of_log2 (by decide +kernel)) fun s2 u2 k2 => ev_int fun s3 u3 k3 => mod_i (by decide) fun s4 u4 k4 => ev_int fun s5 u5 k5 => PyProof.Rows.eq_int (wpAny_truthy_bool ?_))))))
    have k15 := (((k1.then k2).then k3).then k4).then k5
    have T5 := k15.top Te
    split
    · refine Call_Name rfl (nm_g T5 (g_dxf w) (callWith_K T5.K (k_k149 w) (spliced_more (Subscript_ (nm_l (k15.ns0 ne) Re (ev_int fun s6 u6 k6 => rowAt (k6.top T5) (n := n + 2) r (.inl ((hprs.keeps k15.ext).keeps k6.ext)) (.inl rfl) fun cv s7 k7 hcv _ => ?_))))))
      have k57 := k6.then k7
      refine spliced_more (Subscript_ (nm_l ((k15.then k57).ns0 ne) Re (ev_int fun s8 u8 k8 => rowAt ((k57.then k8).top T5) (n := n + 2) r (.inl ((hprs.keeps k15.ext).keeps (k57.then k8).ext)) (.inr rfl) fun vv s9 k9 _ hvv => ?_)))
      have k59 := (k57.then k8).then k9
      have kk := k15.then k59
      refine spliced_none ⟨(kk.top Te).K, dx_new (kk.top Te) (n := n + 4) r fun s10 xa dx k10 fx fdx hdx => ?_⟩
      have F := fin (.ref xa) s10 (kk.then k10) (.inr ⟨hprs.ok, xa, dx, cv, vv, rfl, hcv rfl, hvv rfl, hideAll_get _ hdx.obj ?_, hideAll_get _ hdx.dic ?_⟩)
      · exact ⟨F.1, fun sg kg lg => wpAny_execs_nil (F.2 sg kg lg)⟩
      · have nb : ∀ z, (∃ o, se.heap.get? z = some o) → xa ≠ z := fun z ⟨o, ez⟩ q => by have := kk.ext _ _ ez; rw [← q, fx] at this; cases this
        simp only [List.mem_cons, List.not_mem_nil, or_false, not_or]
        exact ⟨nb _ hLe, nb _ hXe, nb _ hIe⟩
      · have nb : ∀ z, (∃ o, se.heap.get? z = some o) → dx ≠ z := fun z ⟨o, ez⟩ q => by have := kk.ext _ _ ez; rw [← q, fdx] at this; cases this
        simp only [List.mem_cons, List.not_mem_nil, or_false, not_or]
        exact ⟨nb _ hLe, nb _ hXe, nb _ hIe⟩
    · have F := fin pv _ k15 (.inl (hpr.keeps (hide3 (k0e.then k15).ext (by simp; exact ⟨hL, D.kp.fresh fX, hIf⟩))))
      exact nm_l (k15.ns0 ne) Re ⟨F.1, fun sg kg lg => wpAny_execs_nil (F.2 sg kg lg)⟩
  · rintro sa sb ⟨ma, B, mvs, mrows, ka, na, Na, Ma, eB1, eB, bL, bX, bI, lx, tx, hlen⟩ kb
    have hIf : s₀.heap.get? I = none := (k02.then k27).fresh hI
    have sz : pvs.toArray.size = pns.length := by simpa using hpvl
    refine h sb ma B mx mvs mrows (ka.loc1 kb hIf) (kb.ns na (ni hIL)) Na Ma eB1 (eB.loc bI kb) bL bX (lx.but kb.keep (ni mxI)) tx (by omega)
end
end Mine

namespace Mine

theorem tags_is (w : World) : isIn (KK w) (.ref 327) 327 = true := by kernel_rfl

section
variable {prog : Program} {w : World} {A : Around} {E : Value → Shared → Prop} {s : Shared} {env : Env} {s₀ : Shared} {L fa : Addr} {cd : Value} {n : Nat}

theorem hx {B : Heap} {s s' : Shared} (eB : Ext B s.heap) (k : Kp [] s s') (bL : B.get? L = none) : Ext B (hideAll s'.heap [L]) := ext_hide (ext_tr eB k.ext) bL

/-- [(c, e)] -/
theorem ev_one {c : Int} {e : Expr} {k₁ k₂ : Nat} {p₁ p₂ p₃ : Pos} {v : Value} {x : Str ⊕ Int} {Q : Value → Shared → Prop} (ho : okR (c, x)) (hx : VR v x)
    (he : ∀ s₁ Q₁, Kp [] s s₁ → (∀ s₂ v', Kp [] s₁ s₂ → VR v' x → Q₁ v' s₂) → wpAny (model prog w) A (eval e env) Q₁ E s₁)
    (h : ∀ s' D v', Kp [] s s' → s.heap.get? D = none → Ls s'.heap D [v'] → RowsR s'.heap [v'] [(c, x)] → Q (.ref D) s')
    (hs : starEach [.Tuple [.Constant (.int c) k₁ p₁, e] k₂ p₂] env = (false, eval (.Tuple [.Constant (.int c) k₁ p₁, e] k₂ p₂) env) :: starEach [] env := by rfl)
    (hs2 : starEach [.Constant (.int c) k₁ p₁, e] env = (false, eval (.Constant (.int c) k₁ p₁) env) :: starEach [e] env := by rfl) (hs3 : starEach [e] env = (false, eval e env) :: starEach [] env := by rfl) :
    wpAny (model prog w) A (eval (.List [.Tuple [.Constant (.int c) k₁ p₁, e] k₂ p₂] p₃) env) Q E s := by
  refine List_ (spliced_more (ev_tup2 (ev_int fun s₁ u₁ k₁ => he s₁ _ k₁ fun s₂ v' k₂ hv s₃ p k₃ fp hp => ?_) hs2 hs3) hs)
  refine spliced_none (wpAny_newObj_type ?_)
  have kk := (k₁.then k₂).then k₃
  refine h _ _ (.ref p) (kk.then .push) (kk.fresh fresh_size) ⟨0, Heap.get?_push_size _ rfl⟩ (.cons ⟨ho, p, _, _, _, _, rfl, ⟨_, rfl⟩, hv, Heap.get?_push_of_some _ hp, rfl, rfl⟩ .nil)

/-- what stands of the law's things, whatever the frame -/
structure LawC (w : World) (LR IRows : List Row) (B : Heap) (m : Str → Option Value) : Prop where
  made : ∃ ma md mit mn, m "made" = some (.ref ma) ∧ TagsAt B ma md mit mn ∧ RowsR B mit.toList LR
  listed : ∃ ll lvs, m "listed" = some (.ref ll) ∧ Ls B ll lvs ∧ RowsR B lvs LR
  handed : ∃ hl hvs, m "handed" = some (.ref hl) ∧ Ls B hl hvs ∧ RowsR B hvs IRows
  inner : ∃ il ivs, m "inner" = some (.ref il) ∧ Ls B il ivs ∧ RowsR B ivs IRows
  sz : LR.length ≤ 20 ∧ IRows.length ≤ 10
theorem LawC.keeps {LR IRows : List Row} {B B' : Heap} {m : Str → Option Value} (C : LawC w LR IRows B m) (k : Ext B B') : LawC w LR IRows B' m := by
  obtain ⟨⟨a, d, i, n, e1, e2, e3⟩, ⟨b, bs, f1, f2, f3⟩, ⟨c, cs, g1, g2, g3⟩, ⟨d', ds, h1, h2, h3⟩, sz⟩ := C
  exact ⟨⟨a, d, i, n, e1, e2.keeps k, e3.keeps k⟩, ⟨b, bs, f1, f2.keeps k, f3.keeps k⟩, ⟨c, cs, g1, g2.keeps k, g3.keeps k⟩, ⟨d', ds, h1, h2.keeps k, h3.keeps k⟩, sz⟩
theorem LawC.set {LR IRows : List Row} {B : Heap} {m : Str → Option Value} (C : LawC w LR IRows B m) {x : Str} {v : Value} (h1 : x ≠ "made") (h2 : x ≠ "listed") (h3 : x ≠ "handed") (h4 : x ≠ "inner") :
    LawC w LR IRows B (fun z => if z = x then some v else m z) := by
  obtain ⟨⟨a, d, i, n, e1, e2, e3⟩, ⟨b, bs, f1, f2, f3⟩, ⟨c, cs, g1, g2, g3⟩, ⟨d', ds, k1, k2, k3⟩, sz⟩ := C
  exact ⟨⟨a, d, i, n, by rw [if_neg (Ne.symm h1)]; exact e1, e2, e3⟩, ⟨b, bs, by rw [if_neg (Ne.symm h2)]; exact f1, f2, f3⟩, ⟨c, cs, by rw [if_neg (Ne.symm h3)]; exact g1, g2, g3⟩, ⟨d', ds, by rw [if_neg (Ne.symm h4)]; exact k1, k2, k3⟩, sz⟩

/-- the rows of two values told to be the same -/
theorem rowsNe {rs rs' : List Row} {a b : Addr} {ys zs : List Value} {Q : Value → Shared → Prop} (r : Room A n) (la : Ls s.heap a ys) (lb : Ls s.heap b zs) (ra : RowsR s.heap ys rs) (rb : RowsR s.heap zs rs')
    (h : Q (.bool (!decide (rs = rs'))) s) : wpAny (model prog w) A (compareOp .NotEq (.ref a) (.ref b)) Q E s := by
  obtain ⟨c, ea⟩ := la
  obtain ⟨c', eb⟩ := lb
  have e := rows_eqv rs rs'
  refine ne_t r (reads_list_at ea rfl rfl (by simpa using ra.reads)) (reads_list_at eb rfl rfl (by simpa using rb.reads)) (rows_shaped ra.oks) (rows_shaped rb.oks) ?_
  show Q (.bool (!PyData.eqv (rowsD rs) (rowsD rs'))) s
  rw [e]; exact h
theorem rowsEqL {rs rs' : List Row} {a b : Addr} {ys zs : List Value} {Q : Value → Shared → Prop} (r : Room A n) (la : Ls s.heap a ys) (lb : Ls s.heap b zs) (ra : RowsR s.heap ys rs) (rb : RowsR s.heap zs rs')
    (h : Q (.bool (decide (rs = rs'))) s) : wpAny (model prog w) A (compareOp .Eq (.ref a) (.ref b)) Q E s := by
  obtain ⟨c, ea⟩ := la
  obtain ⟨c', eb⟩ := lb
  have e := rows_eqv rs rs'
  refine eq_t r (reads_list_at ea rfl rfl (by simpa using ra.reads)) (reads_list_at eb rfl rfl (by simpa using rb.reads)) (rows_shaped ra.oks) (rows_shaped rb.oks) ?_
  show Q (.bool (PyData.eqv (rowsD rs) (rowsD rs'))) s
  rw [e]; exact h

/-- _law_plain(x) -/
theorem ev_plain {x : Str} {p₁ p₂ p₃ : Pos} {a : Addr} {items : Array Value} {rs : List Row} {m : Str → Option Value} {Q : Value → Shared → Prop} (T : Top0 w s.heap) (r : Room A (n + 8)) (hn : s.heap.Ns env.locals m) (hm : m x = some (.ref a)) (sv : SeqV s.heap a items) (t : TagsR s.heap items.toList rs) (hsz : items.size ≤ sizeLine)
    (h : ∀ s' D ys, Kp [] s s' → s.heap.get? D = none → Ls s'.heap D ys → RowsR s'.heap ys rs → Q (.ref D) s') (hk : env.scope.kind = .function := by rfl) (hl : env.kindOf x = some .local := by rfl)
    (hx : env.kindOf "_law_plain" = some .globalImplicit := by rfl) (hg : env.globals = mainGlobals := by rfl) (hs : starEach [.Name x p₂] env = (false, eval (.Name x p₂) env) :: starEach [] env := by rfl) (hd : (x == ("__debug__" : Str)) = false := by decide) :
    wpAny (model prog w) A (eval (.Call (.Name "_law_plain" p₁) [.Name x p₂] [] p₃) env) Q E s :=
  Call_Name rfl (nm_g T (g_plain w) (callWith_K T.K (k_k402 w) (spliced_more (nm_l hn hm (spliced_none ⟨T.K, plain_call T r sv t hsz fun s' D ys c k fD hD rr => h s' D ys k fD ⟨c, hD⟩ rr⟩) hk hl hd) hs) hs) hk hx hg)
end
end Mine

namespace Mine

section
variable {prog : Program} {w : World} {A : Around} {E : Value → Shared → Prop} {s : Shared} {env : Env} {s₀ : Shared} {L fa : Addr} {cd : Value} {n : Nat}

theorem Ls.seqV {h : Heap} {a : Addr} {ys : List Value} (x : Ls h a ys) : SeqV h a (List.toArray ys) := .inr (let ⟨c, e⟩ := x; ⟨_, c, e, rfl, rfl⟩)

/-- rows, at, handed: what the law has before listed -/
structure LawB (B : Heap) (mx rl hl il : Addr) (mvs rvs ivs : List Value) (mrows inner : List Row) (first : Int) (at_ : Nat) (nm : Str) (m : Str → Option Value) : Prop where
  mf : ∃ t, m "first" = some (.int first t)
  mn : ∃ t, m "name" = some (.str nm t)
  ma : ∃ t, m "at" = some (.int (at_ : Int) t)
  mm : m "mix" = some (.ref mx)
  mr : m "rows" = some (.ref rl)
  mh : m "handed" = some (.ref hl)
  mi : m "inner" = some (.ref il)
  lm : Ls B mx mvs
  tm : TagsR B mvs mrows
  lr : Ls B rl rvs
  rr : RowsR B rvs mrows
  lh : Ls B hl ivs
  li : Ls B il ivs
  ri : RowsR B ivs inner
  ml : mrows.length ≤ 20
  il : inner.length ≤ 10
  al : at_ ≤ mrows.length
  n3 : names3 nm
theorem LawB.keeps {B B' : Heap} {mx rl hl il : Addr} {mvs rvs ivs : List Value} {mrows inner : List Row} {first : Int} {at_ : Nat} {nm : Str} {m : Str → Option Value} (D : LawB B mx rl hl il mvs rvs ivs mrows inner first at_ nm m) (k : Ext B B') : LawB B' mx rl hl il mvs rvs ivs mrows inner first at_ nm m :=
  { D with lm := D.lm.keeps k, tm := D.tm.keeps k, lr := D.lr.keeps k, rr := D.rr.keeps k, lh := D.lh.keeps k, li := D.li.keeps k, ri := D.ri.keeps k }

theorem law_B {Q : Flow → Shared → Prop} {m : Str → Option Value} {nl il mx : Addr} {ivs mvs : List Value} {inner mrows : List Row} {first : Int} {c : Nat} {nm : Str} {B : Heap} (T : Top0 w s₀.heap) (r : Room A (n + 8)) (hL : s₀.heap.get? L = none)
    (k : Kp [] s₀ s) (hn : s.heap.Ns L m) (N : NmA nl il first c nm m) (mm : m "mix" = some (.ref mx)) (eB : Ext B s.heap) (bL : B.get? L = none) (lx : Ls s.heap mx mvs) (tx : TagsR B mvs mrows) (hml : mrows.length ≤ 20)
    (hil : Ls B il ivs) (hir : RowsR B ivs inner) (hilen : inner.length ≤ 10) (h3 : names3 nm)
    (h : ∀ s' m' B' rl hl rvs at_, Kp [] s₀ s' → s'.heap.Ns L m' → Ext B' s'.heap → B'.get? L = none → LawB B' mx rl hl il mvs rvs ivs mrows inner first at_ nm m' →
      wpAny (model prog w) A (execs ((bodyOfS (topSt 25)).drop 10) (lawEnv L fa cd)) Q E s') :
    wpAny (model prog w) A (execs ((bodyOfS (topSt 25)).drop 7) (lawEnv L fa cd)) Q E s := by
  have hsl : (1000 : Nat) ≤ sizeLine := by rw [sizeLine_eq]; decide
  have hmv : mvs.length = mrows.length := tx.length
  have hiv : ivs.length = inner.length := hir.length
  have Ts := k.top T
  -- rows = _law_plain(mix)
  refine wpAny_execs_cons (asg (ev_plain Ts (n := n) r hn mm lx.seqV (by simpa using tx.keeps eB) (by simp; omega) fun s₁ R₀ ys k₁ fR lR rR => ⟨m, k₁.ns0 hn, fun s₂ k₂ n₂ => ?_⟩))
  have n₁ := k₁.ns0 hn
  have k02 := (k.then k₁).loc1 k₂ hL
  have e₁ := hx eB k₁ bL
  have e₂ : Ext (hideAll s₁.heap [L]) s₂.heap := ext_of_hide.loc hide_none k₂
  have lx₁ := (lx.keeps k₁.ext).hide n₁
  have lR₁ := lR.hide n₁
  have rR₁ := rR.hide n₁
  have tx₁ := tx.keeps e₁
  have hil₁ := hil.keeps e₁
  have hir₁ := hir.keeps e₁
  have N₂ := N.set (x := "rows") (v := .ref R₀) (by decide) (by decide) (by decide) (by decide) (by decide)
  have mm₂ : (fun z => if z = ("rows" : Str) then some (Value.ref R₀) else m z) "mix" = some (.ref mx) := by show (if _ then _ else _) = _; rw [if_neg (by decide)]; exact mm
  have mr₂ : (fun z => if z = ("rows" : Str) then some (Value.ref R₀) else m z) "rows" = some (.ref R₀) := if_pos rfl
  generalize (fun z => if z = ("rows" : Str) then some (Value.ref R₀) else m z) = m₂ at n₂ N₂ mm₂ mr₂
  have hyl : ys.length = mrows.length := rR.length
  -- at = first // 315 % (len(rows) + 1)
  obtain ⟨tf, mf₂⟩ := N₂.mf
  refine wpAny_execs_cons (asg (wpAny_BinOp (wpAny_BinOp (nm_l n₂ mf₂ (ev_int fun s₃ u₃ k₃ => div_i (by decide) (PyProof.noPylong_of_log2 (by decide +kernel)) fun s₄ u₄ k₄ => ?_)))))
  have k24 := k₃.then k₄
  refine wpAny_BinOp (ev_lenL ((k02.then k24).top T) (nm_l (k24.ns0 n₂) mr₂ ⟨R₀, ys, rfl, (lR₁.keeps e₂).keeps k24.ext, by omega, fun s₅ u₅ k₅ => ev_int fun s₆ u₆ k₆ => add_i fun s₇ u₇ k₇ => ?_⟩))
  have k27 := ((k24.then k₅).then k₆).then k₇
  obtain ⟨q, hq, hql⟩ := fmod_nat (first.fdiv 315) (ys.length + 1) (by omega)
  have hq' : (first.fdiv 315).fmod ((ys.length : Int) + 1) = (q : Int) := by
    have e : ((ys.length + 1 : Nat) : Int) = (ys.length : Int) + 1 := by omega
    rw [← e]; exact hq
  refine mod_i (by omega) fun s₈ u₈ k₈ => ⟨m₂, (k27.then k₈).ns0 n₂, fun s₉ k₉ n₉ => ?_⟩
  rw [hq'] at n₉
  have k28 := k27.then k₈
  have k09 := (k02.then k28).loc1 k₉ hL
  have e₉ : Ext (hideAll s₁.heap [L]) s₉.heap := (ext_tr e₂ k28.ext).loc hide_none k₉
  have N₉ := N₂.set (x := "at") (v := .int (q : Int) u₈) (by decide) (by decide) (by decide) (by decide) (by decide)
  have mm₉ : (fun z => if z = ("at" : Str) then some (Value.int (q : Int) u₈) else m₂ z) "mix" = some (.ref mx) := by show (if _ then _ else _) = _; rw [if_neg (by decide)]; exact mm₂
  have mr₉ : (fun z => if z = ("at" : Str) then some (Value.int (q : Int) u₈) else m₂ z) "rows" = some (.ref R₀) := by show (if _ then _ else _) = _; rw [if_neg (by decide)]; exact mr₂
  have ma₉ : (fun z => if z = ("at" : Str) then some (Value.int (q : Int) u₈) else m₂ z) "at" = some (.int (q : Int) u₈) := if_pos rfl
  generalize (fun z => if z = ("at" : Str) then some (Value.int (q : Int) u₈) else m₂ z) = m₉ at n₉ N₉ mm₉ mr₉ ma₉
  -- handed = list(inner)
  refine wpAny_execs_cons (asg (ev_list (k09.top T) (nm_l n₉ N₉.mi ⟨il, ivs, rfl, (hil₁.keeps e₉).is, by omega, fun s₁₀ H k₁₀ fH lH => ⟨m₉, k₁₀.ns0 n₉, fun s₁₁ k₁₁ n₁₁ => ?_⟩⟩)))
  have n₁₀ := k₁₀.ns0 n₉
  have e₁₀ := hx e₉ k₁₀ hide_none
  have N₁₁ := N₉.set (x := "handed") (v := .ref H) (by decide) (by decide) (by decide) (by decide) (by decide)
  refine h s₁₁ _ (hideAll s₁₀.heap [L]) R₀ H ys q ((k09.then k₁₀).loc1 k₁₁ hL) n₁₁ (ext_of_hide.loc hide_none k₁₁) hide_none
    { mf := N₁₁.mf, mn := N₁₁.mn, ma := ⟨u₈, by rw [if_neg (by decide)]; exact ma₉⟩, mm := by rw [if_neg (by decide)]; exact mm₉, mr := by rw [if_neg (by decide)]; exact mr₉, mh := if_pos rfl, mi := N₁₁.mi,
      lm := lx₁.keeps e₁₀, tm := tx₁.keeps e₁₀, lr := lR₁.keeps e₁₀, rr := rR₁.keeps e₁₀, lh := lH.hide n₁₀, li := hil₁.keeps e₁₀, ri := hir₁.keeps e₁₀, ml := hml, il := hilen, al := by omega, n3 := h3 }
end
end Mine

namespace Mine

section
variable {prog : Program} {w : World} {A : Around} {E : Value → Shared → Prop} {s : Shared} {env : Env} {s₀ : Shared} {L fa : Addr} {cd : Value} {n : Nat}

def nameRows (nm : Str) : List Row := if nm.length != 0 then [(1000, .inl nm)] else []

/-- [(1000, name)] if name else [] -/
theorem ev_nameRows {p₁ p₂ p₃ p₄ p₅ p₆ p₇ : Pos} {k₁ k₂ : Nat} {nm : Str} {t : Tok} {m : Str → Option Value} {Q : Value → Shared → Prop} (hn : s.heap.Ns env.locals m) (mn : m "name" = some (.str nm t)) (h3 : names3 nm)
    (h : ∀ s' D ys, Kp [] s s' → s.heap.get? D = none → Ls s'.heap D ys → RowsR s'.heap ys (nameRows nm) → Q (.ref D) s') (hk : env.scope.kind = .function := by rfl) (hl : env.kindOf "name" = some .local := by rfl)
    (hs : starEach [.Tuple [.Constant (.int 1000) k₁ p₁, .Name "name" p₂] k₂ p₃] env = (false, eval (.Tuple [.Constant (.int 1000) k₁ p₁, .Name "name" p₂] k₂ p₃) env) :: starEach [] env := by rfl)
    (hs2 : starEach [.Constant (.int 1000) k₁ p₁, .Name "name" p₂] env = (false, eval (.Constant (.int 1000) k₁ p₁) env) :: starEach [.Name "name" p₂] env := by rfl) (hs3 : starEach [.Name "name" p₂] env = (false, eval (.Name "name" p₂) env) :: starEach [] env := by rfl) :
    wpAny (model prog w) A (eval (.IfExp (.Name "name" p₅) (.List [.Tuple [.Constant (.int 1000) k₁ p₁, .Name "name" p₂] k₂ p₃] p₄) (.List [] p₆) p₇) env) Q E s := by
  refine wpAny_IfExp (isTrue_plain (nm_l hn mn (trueStr (by have := names3_len h3; omega) fun s₁ k₁ => ?_) hk hl))
  unfold nameRows at h
  by_cases e : (nm.length != 0) = true
  · rw [if_pos e]
    rw [if_pos e] at h
    exact ev_one (x := .inl nm) (v := .str nm t) (names3_ok h3) ⟨t, rfl⟩ (fun s₂ Q₁ k₂ hq => nm_l (k₂.ns0 (k₁.ns0 hn)) mn (hq _ _ .refl ⟨t, rfl⟩) hk hl) (fun s' D v' k fD lD rD => h s' D [v'] (k₁.then k) (k₁.fresh fD) lD rD) hs hs2 hs3
  · rw [if_neg e]
    rw [if_neg e] at h
    exact List_ (spliced_none (wpAny_newObj_type (h _ _ [] (k₁.then .push) (k₁.fresh fresh_size) ⟨0, Heap.get?_push_size _ rfl⟩ .nil)))

theorem brO_ok : okR opn := by unfold okR; decide +kernel
theorem brC_ok : okR clz := by unfold okR; decide +kernel

theorem law_C {Q : Flow → Shared → Prop} {m : Str → Option Value} {mx rl hl il : Addr} {mvs rvs ivs : List Value} {mrows inner : List Row} {first : Int} {at_ : Nat} {nm : Str} {B : Heap} (T : Top0 w s₀.heap) (r : Room A (n + 8)) (hL : s₀.heap.get? L = none)
    (k : Kp [] s₀ s) (hn : s.heap.Ns L m) (eB : Ext B s.heap) (bL : B.get? L = none) (D : LawB B mx rl hl il mvs rvs ivs mrows inner first at_ nm m)
    (h : ∀ s' m' B', Kp [] s₀ s' → s'.heap.Ns L m' → Ext B' s'.heap → B'.get? L = none → LawB B' mx rl hl il mvs rvs ivs mrows inner first at_ nm m' → LawC w (listed nm inner) inner B' m' →
      wpAny (model prog w) A (execs ((bodyOfS (topSt 25)).drop 13) (lawEnv L fa cd)) Q E s') :
    wpAny (model prog w) A (execs ((bodyOfS (topSt 25)).drop 10) (lawEnv L fa cd)) Q E s := by
  have hsl : (1000 : Nat) ≤ sizeLine := by rw [sizeLine_eq]; decide
  have hiv : ivs.length = inner.length := D.ri.length
  have hilen := D.il
  obtain ⟨tn, mn⟩ := D.mn
  have Ts := k.top T
  -- listed
  refine wpAny_execs_cons (asg (wpAny_BinOp (wpAny_BinOp (wpAny_BinOp (ev_nameRows hn mn D.n3 fun s₁ D₁ y₁ k₁ f₁ l₁ r₁ => ev_one (x := .inl "{") (v := .str "{" 0) brO_ok ⟨0, rfl⟩ (fun s₂ Q₁ k₂ hq => ev_str fun s₃ t k₃ => hq _ _ k₃ ⟨t, rfl⟩) fun s₄ D₂ v₂ k₄ f₂ l₂ r₂ => ?_)))))
  have hy1 : y₁.length ≤ 1 := by
    have e1 : (nameRows nm).length ≤ 1 := by unfold nameRows; split <;> simp
    have e2 : y₁.length = (nameRows nm).length := r₁.length
    omega
  refine ls_add (l₁.keeps k₄.ext) l₂ (by simp; omega) fun s₅ D₃ k₅ f₃ l₃ => ?_
  have k05 := (k₁.then k₄).then k₅
  refine nm_l (k05.ns0 hn) D.mi (ls_add l₃ ((D.li.keeps eB).keeps k05.ext) (by simp; omega) fun s₆ D₄ k₆ f₄ l₄ => ?_)
  have k06 := k05.then k₆
  refine ev_one (x := .inl "}") (v := .str "}" 0) brC_ok ⟨0, rfl⟩ (fun s₂ Q₁ k₂ hq => ev_str fun s₃ t k₃ => hq _ _ k₃ ⟨t, rfl⟩) fun s₇ D₅ v₅ k₇ f₅ l₅ r₅ => ?_
  have k07 := k06.then k₇
  refine ls_add (l₄.keeps k₇.ext) l₅ (by simp; omega) fun s₈ LL k₈ fLL lLL => ⟨m, (k07.then k₈).ns0 hn, fun s₉ k₉ n₉ => ?_⟩
  have k08 := k07.then k₈
  have n₈ := k08.ns0 hn
  have rLL : RowsR s₈.heap (y₁ ++ [v₂] ++ ivs ++ [v₅]) (listed nm inner) := by
    refine Paired.app (Paired.app (Paired.app ?_ ?_) ?_) ?_
    · exact r₁.keeps (((((k₄.then k₅).then k₆).then k₇).then k₈).ext)
    · exact r₂.keeps ((((k₅.then k₆).then k₇).then k₈).ext)
    · exact (D.ri.keeps eB).keeps k08.ext
    · exact r₅.keeps k₈.ext
  have e₈ := hx eB k08 bL
  have lL₈ := lLL.hide n₈
  have rL₈ := rLL.hide n₈
  have D₈ := D.keeps e₈
  have e₉ : Ext (hideAll s₈.heap [L]) s₉.heap := ext_of_hide.loc hide_none k₉
  have k09 := (k.then k08).loc1 k₉ hL
  have mset : ∀ x v, x ≠ ("listed" : Str) → m x = some v → (fun z => if z = ("listed" : Str) then some (Value.ref LL) else m z) x = some v := fun x v hx hm => by show (if _ then _ else _) = _; rw [if_neg hx]; exact hm
  have mL₉ : (fun z => if z = ("listed" : Str) then some (Value.ref LL) else m z) "listed" = some (.ref LL) := if_pos rfl
  have D₉ : LawB (hideAll s₈.heap [L]) mx rl hl il mvs rvs ivs mrows inner first at_ nm (fun z => if z = ("listed" : Str) then some (Value.ref LL) else m z) :=
    { D₈ with mf := D.mf.imp fun t e => mset _ _ (by decide) e, mn := D.mn.imp fun t e => mset _ _ (by decide) e, ma := D.ma.imp fun t e => mset _ _ (by decide) e, mm := mset _ _ (by decide) D.mm, mr := mset _ _ (by decide) D.mr, mh := mset _ _ (by decide) D.mh, mi := mset _ _ (by decide) D.mi }
  generalize (fun z => if z = ("listed" : Str) then some (Value.ref LL) else m z) = m₉ at n₉ mL₉ D₉
  generalize y₁ ++ [v₂] ++ ivs ++ [v₅] = lvs at lL₈ rL₈
  clear mset
  -- made
  obtain ⟨tn₉, mn₉⟩ := D₉.mn
  have T₉ := k09.top T
  obtain ⟨cH, eH⟩ := D₉.lh.keeps e₉
  refine wpAny_execs_cons (asg (Call_Name rfl (nm_g T₉ (g_xdata w) (callWith_K T₉.K (k_k340 w) (spliced_more (nm_l n₉ mn₉ (spliced_more (nm_l n₉ D₉.mh (spliced_none ⟨T₉.K, xdata_call (n := n + 5) T₉ r eH (D₉.ri.keeps e₉) (by omega) (names3_ok D.n3) (names3_len D.n3) fun s₁₀ MA MD mit mn' k₁₀ fM fMd tM rM => ?_⟩)))))))))
  refine ⟨m₉, k₁₀.ns0 n₉, fun s₁₁ k₁₁ n₁₁ => ?_⟩
  have n₁₀ := k₁₀.ns0 n₉
  have e₁₀ := hx e₉ k₁₀ hide_none
  have maL : MA ≠ L := Ns.ne n₉ fM
  have mdL : MD ≠ L := Ns.ne n₉ fMd
  have tM₁ : TagsAt (hideAll s₁₀.heap [L]) MA MD mit mn' := ⟨hideAll_get _ tM.obj (ni maL), hideAll_get _ tM.dic (ni mdL)⟩
  have rM₁ := rM.hide n₁₀
  have e₁₁ : Ext (hideAll s₁₀.heap [L]) s₁₁.heap := ext_of_hide.loc hide_none k₁₁
  have k011 := (k09.then k₁₀).loc1 k₁₁ hL
  have mset : ∀ x v, x ≠ ("made" : Str) → m₉ x = some v → (fun z => if z = ("made" : Str) then some (Value.ref MA) else m₉ z) x = some v := fun x v hx hm => by show (if _ then _ else _) = _; rw [if_neg hx]; exact hm
  have D₁₀ := D₉.keeps e₁₀
  have D₁₁ : LawB (hideAll s₁₀.heap [L]) mx rl hl il mvs rvs ivs mrows inner first at_ nm (fun z => if z = ("made" : Str) then some (Value.ref MA) else m₉ z) :=
    { D₁₀ with mf := D₉.mf.imp fun t e => mset _ _ (by decide) e, mn := D₉.mn.imp fun t e => mset _ _ (by decide) e, ma := D₉.ma.imp fun t e => mset _ _ (by decide) e, mm := mset _ _ (by decide) D₉.mm, mr := mset _ _ (by decide) D₉.mr, mh := mset _ _ (by decide) D₉.mh, mi := mset _ _ (by decide) D₉.mi }
  have LRlen : (listed nm inner).length ≤ 20 := by
    have : lvs.length = (listed nm inner).length := rL₈.length
    unfold listed
    split <;> simp <;> omega
  have C₁₁ : LawC w (listed nm inner) inner (hideAll s₁₀.heap [L]) (fun z => if z = ("made" : Str) then some (Value.ref MA) else m₉ z) :=
    ⟨⟨MA, MD, mit, mn', if_pos rfl, tM₁, rM₁⟩, ⟨LL, lvs, mset _ _ (by decide) mL₉, lL₈.keeps e₁₀, rL₈.keeps e₁₀⟩, ⟨hl, ivs, D₁₁.mh, D₁₁.lh, D₁₁.ri⟩, ⟨il, ivs, D₁₁.mi, D₁₁.li, D₁₁.ri⟩, LRlen, D.il⟩
  have mM : (fun z => if z = ("made" : Str) then some (Value.ref MA) else m₉ z) "made" = some (.ref MA) := if_pos rfl
  have mLL : (fun z => if z = ("made" : Str) then some (Value.ref MA) else m₉ z) "listed" = some (.ref LL) := mset _ _ (by decide) mL₉
  generalize (fun z => if z = ("made" : Str) then some (Value.ref MA) else m₉ z) = m₁₁ at n₁₁ D₁₁ C₁₁ mM mLL
  have T₁₁ := k011.top T
  have rL₁₀ := rL₈.keeps e₁₀
  have lL₁₀ := lL₈.keeps e₁₀
  have tM₂ := tM₁.keeps e₁₁
  have hmit : mit.size = (listed nm inner).length := by simpa using rM.length
  -- if not isinstance(made, Tags) or ...
  refine wpAny_execs_cons (wpAny_If (isTrue_or (isTrue_not (isTrue_plain (Call_Name rfl (nm_b T₁₁ (g_isinstance w) PyProof.Rows.Boot.«isinstance» (callWith_method1 (first := []) (spliced_more (nm_l n₁₁ mM (spliced_more (nm_g T₁₁ (g_tags w) (spliced_none ?_))))))))))))
  refine isi_call T₁₁.K (fun M => tM₂.type) (tags_is w) (by intro q; cases q) (wpAny_truthy_bool ?_)
  rw [if_neg (by decide)]
  refine isTrue_or (wpAny_isTrue_Compare1 (ev_plain T₁₁ (n := n) r n₁₁ mM (.inl ⟨MD, mn', tM₂⟩) (RowsR.tags (rM₁.keeps e₁₁)) (by omega) fun s₁₂ P ys k₁₂ fP lP rP => nm_l (k₁₂.ns0 n₁₁) mLL (rowsNe r lP ((lL₁₀.keeps e₁₁).keeps k₁₂.ext) rP ((rL₁₀.keeps e₁₁).keeps k₁₂.ext) (wpAny_truthy_bool ?_))))
  rw [if_neg (by simp)]
  have n₁₂ := k₁₂.ns0 n₁₁
  have e₁₂ := ext_tr e₁₁ k₁₂.ext
  refine isTrue_or (wpAny_isTrue_Compare1 (nm_l n₁₂ D₁₁.mh (nm_l n₁₂ D₁₁.mi (rowsNe r (D₁₁.lh.keeps e₁₂) (D₁₁.li.keeps e₁₂) (D₁₁.ri.keeps e₁₂) (D₁₁.ri.keeps e₁₂) (wpAny_truthy_bool ?_)))))
  rw [if_neg (by simp)]
  refine isTrue_or_nil ?_
  refine wpAny_execs_nil (h s₁₂ m₁₁ _ (k011.then k₁₂) n₁₂ e₁₂ hide_none D₁₁ C₁₁)
end
end Mine

namespace Mine

section
variable {prog : Program} {w : World} {A : Around} {E : Value → Shared → Prop} {s : Shared} {env : Env} {s₀ : Shared} {L fa : Addr} {cd : Value} {n : Nat}

structure LawI (w : World) (s₀ : Shared) (L a d R : Addr) (LR IRows rows : List Row) (tn : Nat) (m : Str → Option Value) (B : Heap) (s : Shared) : Prop where
  kp : Kp [] s₀ s
  ns : s.heap.Ns L m
  C : LawC w LR IRows B m
  turn : ∃ t, m "turn" = some (.int (tn : Int) t)
  mt : m "tags" = some (.ref a)
  mr : m "rows" = some (.ref R)
  tg : ∃ items nn, TagsAt s.heap a d items nn ∧ TagsR B items.toList rows
  ls : ∃ rvs, Ls s.heap R rvs ∧ RowsR B rvs rows
  eB : Ext B s.heap
  bL : B.get? L = none
  bA : B.get? a = none
  bR : B.get? R = none
  fL : s₀.heap.get? L = none
  fA : s₀.heap.get? a = none
  fR : s₀.heap.get? R = none
  dL : d ≠ L
  TB : Top0 w B
  b0 : Ext s₀.heap B

theorem law_T {Q : Flow → Shared → Prop} {m : Str → Option Value} {mx rl hl il : Addr} {mvs rvs ivs : List Value} {mrows inner LR : List Row} {first : Int} {at_ : Nat} {nm : Str} {B : Heap} (T : Top0 w s₀.heap) (r : Room A (n + 8)) (hL : s₀.heap.get? L = none)
    (k : Kp [] s₀ s) (hn : s.heap.Ns L m) (eB : Ext B s.heap) (bL : B.get? L = none) (D : LawB B mx rl hl il mvs rvs ivs mrows inner first at_ nm m) (C : LawC w LR inner B m)
    (h : ∀ s' m' B' a d R rows tn, LawI w s₀ L a d R LR inner rows tn m' B' s' → rows.length ≤ 40 →
      wpAny (model prog w) A (execs ((bodyOfS (topSt 25)).drop 16) (lawEnv L fa cd)) Q E s') :
    wpAny (model prog w) A (execs ((bodyOfS (topSt 25)).drop 13) (lawEnv L fa cd)) Q E s := by
  have hsl : (1000 : Nat) ≤ sizeLine := by rw [sizeLine_eq]; decide
  have Ts := k.top T
  obtain ⟨ma, md, mit, mn, mM, tM, rM⟩ := C.made
  obtain ⟨LL, lvs, mL, lL, rL⟩ := C.listed
  obtain ⟨ta, mA⟩ := D.ma
  obtain ⟨tf, mf⟩ := D.mf
  have hLR := C.sz.1
  have hml := D.ml
  have hal := D.al
  have hmv : mvs.length = mrows.length := D.tm.length
  have hrv : rvs.length = mrows.length := D.rr.length
  have hlv : lvs.length = LR.length := rL.length
  have hmi : mit.size = LR.length := by simpa using rM.length
  -- tags = Tags(mix[:at] + list(made) + mix[at:])
  refine wpAny_execs_cons (asg (Call_Name rfl (nm_g Ts (g_tags w) (callWith_K Ts.K (k_k327 w) (spliced_more (wpAny_BinOp (wpAny_BinOp (Subscript_ (nm_l hn D.mm (ev_upto (nm_l hn mA fun s₁ sl k₁ hsl' => ?_)))))))))))
  refine ls_slice ((D.lm.keeps eB).keeps k₁.ext) (by omega) hsl' .none (.int _ _) (slicePick_upto' _ at_) fun s₂ D₁ k₂ f₁ l₁ => ?_
  have k02 := k₁.then k₂
  have T₂ := k02.top Ts
  refine Call_Name rfl (nm_b T₂ (g_list w) PyProof.Rows.Boot.«list» (PyProof.Rows.callWith_type1 (spliced_more (nm_l (k02.ns0 hn) mM (spliced_none (list_of_tags r.hd T₂.K ((tM.keeps eB).keeps k02.ext) (by omega) fun h' tk c' kk hD => ?_))))))
  have k₃ : Kp [] s₂ { s₂ with heap := h', toks := tk } := .of kk
  have lD : Ls ({ s₂ with heap := h', toks := tk } : Shared).heap s₂.heap.objs.size mit.toList := ⟨c', by simpa using hD⟩
  have fD : s₂.heap.get? s₂.heap.objs.size = none := fresh_size
  generalize s₂.heap.objs.size = D₂ at lD fD ⊢
  generalize ({ s₂ with heap := h', toks := tk } : Shared) = s₃ at k₃ lD ⊢
  refine ls_add (l₁.keeps k₃.ext) lD (by simp; omega) fun s₄ D₃ k₄ f₃ l₃ => ?_
  have k04 := (k02.then k₃).then k₄
  refine Subscript_ (nm_l (k04.ns0 hn) D.mm (ev_from (nm_l (k04.ns0 hn) mA fun s₅ sl₂ k₅ hsl₂ => ?_)))
  have k05 := k04.then k₅
  refine ls_slice ((D.lm.keeps eB).keeps k05.ext) (by omega) hsl₂ (.int _ _) .none (slicePick_from' _ at_) fun s₆ D₄ k₆ f₄ l₄ => ?_
  have k06 := k05.then k₆
  refine ls_add (l₃.keeps (k₅.then k₆).ext) l₄ (by simp; omega) fun s₇ D₅ k₇ f₅ l₅ => ?_
  have k07 := k06.then k₇
  obtain ⟨c₅, e₅⟩ := l₅
  refine spliced_none ⟨(k07.top Ts).K, tags_call1 (k07.top Ts).K e₅ rfl rfl (by simp; omega) fun h₈ a d nn k₈ fA fd tA => ?_⟩
  have k₈' : Kp [] s₇ { s₇ with heap := h₈ } := .of k₈
  have tA : TagsAt ({ s₇ with heap := h₈ } : Shared).heap a d _ nn := tA
  generalize ({ s₇ with heap := h₈ } : Shared) = s₈ at k₈' tA ⊢
  have k08 := k07.then k₈'
  refine ⟨m, k08.ns0 hn, fun s₉ k₉ n₉ => ?_⟩
  have aL : a ≠ L := Ns.ne (k07.ns0 hn) fA
  have dL : d ≠ L := Ns.ne (k07.ns0 hn) fd
  have fA0 : s.heap.get? a = none := k07.fresh fA
  have k09 := (k.then k08).loc1 k₉ hL
  have tA₉ : TagsAt s₉.heap a d _ nn := tA.but k₉.keep (ni aL) (ni dL)
  have bA : B.get? a = none := ext_fresh eB fA0
  have e₉ : Ext B s₉.heap := (ext_tr eB k08.ext).loc bL k₉
  have trs : TagsR B (((mvs.toArray.toList.take at_) ++ mit.toList ++ (mvs.toArray.toList.drop at_)).toArray).toList (mrows.take at_ ++ LR ++ mrows.drop at_) := by
    have := Paired.app (Paired.app (Paired.take at_ D.tm) (RowsR.tags rM)) (Paired.drop at_ D.tm)
    show Paired _ _ _
    simpa using this
  have C₉ := C.set (x := "tags") (v := .ref a) (by decide) (by decide) (by decide) (by decide)
  have mr₉ : (fun z => if z = ("tags" : Str) then some (Value.ref a) else m z) "rows" = some (.ref rl) := by show (if _ then _ else _) = _; rw [if_neg (by decide)]; exact D.mr
  have mL₉ : (fun z => if z = ("tags" : Str) then some (Value.ref a) else m z) "listed" = some (.ref LL) := by show (if _ then _ else _) = _; rw [if_neg (by decide)]; exact mL
  have mA₉ : (fun z => if z = ("tags" : Str) then some (Value.ref a) else m z) "at" = some (.int (at_ : Int) ta) := by show (if _ then _ else _) = _; rw [if_neg (by decide)]; exact mA
  have mf₉ : (fun z => if z = ("tags" : Str) then some (Value.ref a) else m z) "first" = some (.int first tf) := by show (if _ then _ else _) = _; rw [if_neg (by decide)]; exact mf
  have mt₉ : (fun z => if z = ("tags" : Str) then some (Value.ref a) else m z) "tags" = some (.ref a) := if_pos rfl
  generalize (fun z => if z = ("tags" : Str) then some (Value.ref a) else m z) = m₉ at n₉ C₉ mr₉ mL₉ mA₉ mf₉ mt₉
  generalize (((mvs.toArray.toList.take at_) ++ mit.toList ++ (mvs.toArray.toList.drop at_)).toArray) = items at tA₉ trs
  have hR := D.rr
  have lR := D.lr
  -- rows = rows[:at] + listed + rows[at:]
  refine wpAny_execs_cons (asg (wpAny_BinOp (wpAny_BinOp (Subscript_ (nm_l n₉ mr₉ (ev_upto (nm_l n₉ mA₉ fun s₁₀ sl₃ k₁₀ hsl₃ => ?_)))))))
  refine ls_slice ((lR.keeps e₉).keeps k₁₀.ext) (by omega) hsl₃ .none (.int _ _) (slicePick_upto' _ at_) fun s₁₁ G₁ k₁₁ g₁ q₁ => ?_
  have k911 := k₁₀.then k₁₁
  refine nm_l (k911.ns0 n₉) mL₉ (ls_add q₁ ((lL.keeps e₉).keeps k911.ext) (by simp; omega) fun s₁₂ G₂ k₁₂ g₂ q₂ => ?_)
  have k912 := k911.then k₁₂
  refine Subscript_ (nm_l (k912.ns0 n₉) mr₉ (ev_from (nm_l (k912.ns0 n₉) mA₉ fun s₁₃ sl₄ k₁₃ hsl₄ => ?_)))
  have k913 := k912.then k₁₃
  refine ls_slice ((lR.keeps e₉).keeps k913.ext) (by omega) hsl₄ (.int _ _) .none (slicePick_from' _ at_) fun s₁₄ G₃ k₁₄ g₃ q₃ => ?_
  have k914 := k913.then k₁₄
  refine ls_add (q₂.keeps (k₁₃.then k₁₄).ext) q₃ (by simp; omega) fun s₁₅ R k₁₅ fR lR₁₅ => ⟨m₉, (k914.then k₁₅).ns0 n₉, fun s₁₆ k₁₆ n₁₆ => ?_⟩
  have k915 := k914.then k₁₅
  have RL : R ≠ L := Ns.ne (k914.ns0 n₉) fR
  have fR0 : s₉.heap.get? R = none := k914.fresh fR
  have aR : a ≠ R := fun q => by have := tA₉.obj; rw [q, fR0] at this; cases this
  have k016 := (k09.then k915).loc1 k₁₆ hL
  have tA₁₆ : TagsAt s₁₆.heap a d items nn := (tA₉.keeps k915.ext).but k₁₆.keep (ni aL) (ni dL)
  have lR₁₆ := lR₁₅.but k₁₆.keep (ni RL)
  have bR : B.get? R = none := ext_fresh e₉ fR0
  have e₁₆ : Ext B s₁₆.heap := (ext_tr e₉ k915.ext).loc bL k₁₆
  have rrs : RowsR B (mvs.toArray.toList.take 0 ++ ((rvs.toArray.toList.take at_) ++ lvs ++ (rvs.toArray.toList.drop at_))) (mrows.take at_ ++ LR ++ mrows.drop at_) := by
    have := Paired.app (Paired.app (Paired.take at_ hR) rL) (Paired.drop at_ hR)
    show Paired _ _ _
    simpa using this
  simp only [List.take_zero, List.nil_append] at rrs
  have C₁₆ := C₉.set (x := "rows") (v := .ref R) (by decide) (by decide) (by decide) (by decide)
  have mt₁₆ : (fun z => if z = ("rows" : Str) then some (Value.ref R) else m₉ z) "tags" = some (.ref a) := by show (if _ then _ else _) = _; rw [if_neg (by decide)]; exact mt₉
  have mf₁₆ : (fun z => if z = ("rows" : Str) then some (Value.ref R) else m₉ z) "first" = some (.int first tf) := by show (if _ then _ else _) = _; rw [if_neg (by decide)]; exact mf₉
  have mr₁₆ : (fun z => if z = ("rows" : Str) then some (Value.ref R) else m₉ z) "rows" = some (.ref R) := if_pos rfl
  generalize (fun z => if z = ("rows" : Str) then some (Value.ref R) else m₉ z) = m₁₆ at n₁₆ C₁₆ mt₁₆ mf₁₆ mr₁₆
  -- turn
  obtain ⟨q, hq, hql⟩ := fmod_nat (first.fdiv 5) 4 (by decide)
  have hq' : (first.fdiv 5).fmod 4 = (q : Int) := hq
  refine wpAny_execs_cons (asg (wpAny_BinOp (wpAny_BinOp (nm_l n₁₆ mf₁₆ (ev_int fun s₁₇ u₁₇ k₁₇ => div_i (by decide) (PyProof.noPylong_of_log2 (by decide +kernel)) fun s₁₈ u₁₈ k₁₈ => ev_int fun s₁₉ u₁₉ k₁₉ => mod_i (by decide) fun s₂₀ u₂₀ k₂₀ => ⟨m₁₆, ?_, fun s₂₁ k₂₁ n₂₁ => ?_⟩)))))
  · exact (((k₁₇.then k₁₈).then k₁₉).then k₂₀).ns0 n₁₆
  rw [hq'] at n₂₁
  have kx := ((k₁₇.then k₁₈).then k₁₉).then k₂₀
  have eF : Ext B s₂₁.heap := (ext_tr e₁₆ kx.ext).loc bL k₂₁
  have bs : ∀ b ∈ [L, a, R], B.get? b = none := by simp; exact ⟨bL, bA, bR⟩
  have b0 : Ext s₀.heap (hideAll s₂₁.heap [L, a, R]) := hide3 ((k016.then kx).loc1 k₂₁ hL).ext (by simp; exact ⟨hL, k.fresh fA0, k09.fresh fR0⟩)
  have TB : Top0 w (hideAll s₂₁.heap [L, a, R]) := T.keeps b0
  refine h s₂₁ _ (hideAll s₂₁.heap [L, a, R]) a d R (mrows.take at_ ++ LR ++ mrows.drop at_) q
    { kp := (k016.then kx).loc1 k₂₁ hL, ns := n₂₁, C := (C₁₆.set (x := "turn") (v := .int (q : Int) u₂₀) (by decide) (by decide) (by decide) (by decide)).keeps (hide3 eF bs), turn := ⟨u₂₀, if_pos rfl⟩,
      mt := by rw [if_neg (by decide)]; exact mt₁₆, mr := by rw [if_neg (by decide)]; exact mr₁₆, tg := ⟨items, nn, (tA₁₆.keeps kx.ext).but k₂₁.keep (ni aL) (ni dL), trs.keeps (hide3 eF bs)⟩,
      ls := ⟨_, (lR₁₆.keeps kx.ext).but k₂₁.keep (ni RL), rrs.keeps (hide3 eF bs)⟩, eB := ext_of_hide, bL := hideAll_none _ (by simp), bA := hideAll_none _ (by simp), bR := hideAll_none _ (by simp), fL := hL, fA := k.fresh fA0, fR := k09.fresh fR0, dL := dL, TB := TB, b0 := b0 } (by simp; omega)
end
end Mine

namespace Mine

def againBody : List Stmt := match lawSt 16 with
  | .For _ _ b _ _ => (match b.getD 1 (.Pass default) with | .For _ _ b _ _ => b | _ => [])
  | _ => []

section
variable {prog : Program} {w : World} {A : Around} {E : Value → Shared → Prop} {s s' : Shared} {env : Env} {s₀ : Shared} {L fa a d R : Addr} {cd : Value} {n tn : Nat} {LR IRows rows : List Row} {m : Str → Option Value} {B : Heap}

theorem LawI.step (I : LawI w s₀ L a d R LR IRows rows tn m B s) (k : Kp [] s s') : LawI w s₀ L a d R LR IRows rows tn m B s' := by
  obtain ⟨items, nn, t, tr⟩ := I.tg
  obtain ⟨rvs, l, lr⟩ := I.ls
  exact { I with kp := I.kp.then k, ns := k.ns0 I.ns, tg := ⟨items, nn, t.keeps k.ext, tr⟩, ls := ⟨rvs, l.keeps k.ext, lr⟩, eB := ext_tr I.eB k.ext }

theorem Ls.ns_ne {h : Heap} {b : Addr} {ys : List Value} (x : Ls h b ys) (n : h.Ns L m) : b ≠ L := fun q => by
  obtain ⟨c, e⟩ := x
  obtain ⟨o, _, _, ho, hd, _⟩ := n
  rw [q, ho] at e; cases e; cases hd
theorem TagsAt.ns_ne {h : Heap} {b d : Addr} {its : Array Value} {nn : Nat} (x : TagsAt h b d its nn) (n : h.Ns L m) : b ≠ L := fun q => by
  have e := x.obj
  obtain ⟨o, _, _, ho, hd, _⟩ := n
  rw [q, ho] at e; cases e; cases hd
theorem Ls.tg_ne {h : Heap} {b a d : Addr} {ys : List Value} {its : Array Value} {nn : Nat} (x : Ls h b ys) (t : TagsAt h a d its nn) : a ≠ b := fun q => by
  obtain ⟨c, e⟩ := x
  have e' := t.obj
  rw [q, e] at e'; cases e'
theorem Ls.dic_ne {h : Heap} {b a d : Addr} {ys : List Value} {its : Array Value} {nn : Nat} (x : Ls h b ys) (t : TagsAt h a d its nn) : d ≠ b := fun q => by
  obtain ⟨c, e⟩ := x
  have e' := t.dic
  rw [q, e] at e'
  have h : Value.type "list" = Value.type "dict" := congrArg Obj.cls (Option.some.inj e')
  exact absurd h (by decide)

/-- a name of no weight is set -/
theorem LawI.name (I : LawI w s₀ L a d R LR IRows rows tn m B s) {x : Str} {v : Value} (k : Kp [L] s s') (hn : s'.heap.Ns L (fun z => if z = x then some v else m z)) (h1 : x ≠ "made") (h2 : x ≠ "listed") (h3 : x ≠ "handed") (h4 : x ≠ "inner") (h5 : x ≠ "turn") (h6 : x ≠ "tags") (h7 : x ≠ "rows") :
    LawI w s₀ L a d R LR IRows rows tn (fun z => if z = x then some v else m z) B s' := by
  obtain ⟨items, nn, t, tr⟩ := I.tg
  obtain ⟨rvs, l, lr⟩ := I.ls
  have aL := t.ns_ne I.ns
  have RL := l.ns_ne I.ns
  exact { I with kp := I.kp.loc1 k I.fL, ns := hn, C := I.C.set h1 h2 h3 h4, turn := I.turn.imp fun t e => (by rw [if_neg (Ne.symm h5)]; exact e), mt := by rw [if_neg (Ne.symm h6)]; exact I.mt, mr := by rw [if_neg (Ne.symm h7)]; exact I.mr,
                 tg := ⟨items, nn, t.but k.keep (ni aL) (ni I.dL), tr⟩, ls := ⟨rvs, l.but k.keep (ni RL), lr⟩, eB := I.eB.loc I.bL k }

def lastOk (rows : List Row) : Prop := ∀ word i, rows[i]? = some (nmr word) → i + 1 < rows.length

theorem again0 {Q : Flow → Shared → Prop} (r : Room A (n + 8)) (I : LawI w s₀ L a d R LR IRows rows tn m B s) (hl : rows.length ≤ 1000)
    (h : ∀ s' B' rows', Kp [L, a, R] s s' → LawI w s₀ L a d R LR IRows rows' tn m B' s' → rows'.length ≤ rows.length + 1 → lastOk rows' → Q .next s') :
    wpAny (model prog w) A (exec (againBody.getD 0 (.Pass default)) (lawEnv L fa cd)) Q E s := by
  have hsl : (100000 : Nat) ≤ sizeLine := by rw [sizeLine_eq]; decide
  obtain ⟨items, nn, t, tr⟩ := I.tg
  obtain ⟨rvs, l, lr⟩ := I.ls
  have hrl : rvs.length = rows.length := lr.length
  have htl : items.size = rows.length := by simpa using tr.length
  have aL := t.ns_ne I.ns
  have RL := l.ns_ne I.ns
  have aR := l.tg_ne t
  refine wpAny_If (isTrue_and (isTrue_plain (nm_l I.ns I.mr (ls_true l (by omega) fun s₁ k₁ => ?_))))
  have I₁ := I.step k₁
  have same : ∀ s₂, Kp [] s s₂ → lastOk rows → Q .next s₂ := fun s₂ k₂ lo => h s₂ B rows (k₂.mono (by simp)) (I.step k₂) (by omega) lo
  rcases List.eq_nil_or_concat rows with rfl | ⟨init, last, rfl⟩
  · have : rvs = [] := List.length_eq_zero_iff.mp (by simpa using hrl)
    rw [this, if_neg (by decide)]
    exact wpAny_execs_nil (same s₁ k₁ (by intro w i e; simp at e))
  · have hne : rvs.isEmpty = false := by cases rvs with
      | nil => simp at hrl
      | cons => rfl
    rw [hne, if_pos (by rfl)]
    rw [List.concat_eq_append] at *
    have hlen : (init ++ [last]).length = init.length + 1 := by simp
    obtain ⟨lv, hlv, hlr⟩ := Paired.get lr (show (init ++ [last])[init.length]? = some last by simp)
    refine isTrue_and (wpAny_isTrue_Compare1 (Subscript_ (Subscript_ (nm_l I₁.ns I.mr (UnaryOp_ (ev_int fun s₂ u₂ k₂ => PyProof.Rows.neg_int ?_))))))
    have k₂' : Kp [] s₂ { s₂ with toks := s₂.toks + 1 } := .tok
    generalize hs₃ : ({ s₂ with toks := s₂.toks + 1 } : Shared) = s₃ at k₂' ⊢
    have k03 := (k₁.then k₂).then k₂'
    have l₃ := l.keeps k03.ext
    refine sub_tail l₃.is.typeIs slot_list_getitem.lookup (ops := [.ref R, .int (-1) s₂.toks]) (wpAny_getItem_list_neg l₃.is (by decide) (by simp; omega) (by decide) (x := lv) ?_ ?_) (by with_unfolding_all rfl)
    · have : ((-1 : Int) + (rvs.toArray.size : Nat)).toNat = init.length := by simp; omega
      rw [this]; simpa using hlv
    · refine ev_int fun s₄ u₄ k₄ => ?_
      have k04 := k03.then k₄
      have hls := hlr.keeps (ext_tr I.eB k04.ext)
      refine rowAt ((I.TB.keeps I.eB).keeps k04.ext) (n := n + 4) r (.inl hls) (.inl rfl) fun y s₅ k₅ hy _ => ?_
      obtain ⟨ty, rfl⟩ := hy rfl
      refine ev_int fun s₆ u₆ k₆ => PyProof.Rows.eq_int (wpAny_truthy_bool ?_)
      have k06 := (k04.then k₅).then k₆
      by_cases hc : last.1 = 1000
      · rw [if_pos (by simp [hc])]
        refine isTrue_and_nil ?_
        have I₆ := I.step k06
        have t₆ := t.keeps k06.ext
        have l₆ := l.keeps k06.ext
        have T₆ := I₆.TB.keeps I₆.eB
        have dR := l.dic_ne t
        have ok5 : okR (1071, .inr 5) := by unfold okR; decide +kernel
        refine wpAny_execs_cons (wpAny_Expr_any (mappend (nm_l I₆.ns I₆.mt ⟨a, d, items, nn, rfl, T₆.K, t₆, by omega, ev_tup2 (ev_int fun s₇ u₇ k₇ => ev_int fun s₈ u₈ k₈ s₉ p k₉ fp hp => ⟨((((k₇.then k₈).then k₉)).top T₆).K, t₆.keeps ((k₇.then k₈).then k₉).ext, fun s₁₀ nn₂ k₁₀ t₁₀ => ?_⟩)⟩)))
        have k69 := (k₇.then k₈).then k₉
        have I₉ := I₆.step k69
        have pa : p ≠ a := fun q => by have := (t₆.keeps (k₇.then k₈).ext).obj; rw [← q, fp] at this; cases this
        have pL : p ≠ L := Ns.ne ((k₇.then k₈).ns0 I₆.ns) fp
        have pR : p ≠ R := fun q => by obtain ⟨c, e⟩ := l₆.keeps (k₇.then k₈).ext; rw [← q, fp] at e; cases e
        have n₁₀ := k₁₀.ns I₉.ns (ni (Ne.symm aL))
        have l₁₀ := (l₆.keeps k69.ext).but k₁₀.keep (ni (Ne.symm aR))
        have e₁₀ : Ext B s₁₀.heap := I₉.eB.loc I.bA k₁₀
        have p₁₀ := k₁₀.keep _ _ (ni pa) hp
        have T₁₀ := I.TB.keeps e₁₀
        refine wpAny_execs_cons (wpAny_Expr_any (lappend (nm_l n₁₀ I₆.mr ⟨R, rvs, rfl, l₁₀, by omega, ev_tup2 (ev_int fun s₁₁ u₁₁ k₁₁ => ev_int fun s₁₂ u₁₂ k₁₂ s₁₃ p' k₁₃ fp' hp' => ⟨l₁₀.keeps ((k₁₁.then k₁₂).then k₁₃).ext, fun s₁₄ k₁₄ l₁₄ => wpAny_execs_nil ?_⟩)⟩)))
        have k1013 := (k₁₁.then k₁₂).then k₁₃
        have t₁₃ := t₁₀.keeps k1013.ext
        have n₁₃ := k1013.ns0 n₁₀
        have pa' : p' ≠ a := fun q => by have := (t₁₀.keeps (k₁₁.then k₁₂).ext).obj; rw [← q, fp'] at this; cases this
        have pL' : p' ≠ L := Ns.ne ((k₁₁.then k₁₂).ns0 n₁₀) fp'
        have pR' : p' ≠ R := fun q => by obtain ⟨c, e⟩ := l₁₀.keeps (k₁₁.then k₁₂).ext; rw [← q, fp'] at e; cases e
        have e₁₃ := ext_tr e₁₀ k1013.ext
        have bs : ∀ b ∈ [L, a, R], B.get? b = none := by simp; exact ⟨I.bL, I.bA, I.bR⟩
        have eH : Ext B (hideAll s₁₃.heap [L, a, R]) := hide3 e₁₃ bs
        have tp : ∀ q, q ≠ a → q ≠ L → q ≠ R → ∀ u u', s₁₃.heap.get? q = some (tupO [.int 1071 u, .int 5 u']) → TupR (hideAll s₁₃.heap [L, a, R]) (.ref q) (1071, .inr 5) := fun q h1 h2 h3 u u' e =>
          ⟨ok5, q, _, _, _, _, rfl, ⟨u, rfl⟩, ⟨u', rfl⟩, hideAll_get _ e (by simp; exact ⟨h2, h1, h3⟩), rfl, rfl⟩
        have kAll : Kp [L, a, R] s s₁₄ := (((k06.then k69).mono (by simp)).and (k₁₀.mono (by simp))).and ((k1013.mono (by simp)).and (k₁₄.mono (by simp)))
        refine h s₁₄ (hideAll s₁₃.heap [L, a, R]) (init ++ [last] ++ [(1071, .inr 5)]) kAll
          { I with kp := ((((I.kp.then k06).then k69).loc1 k₁₀ I.fA).then k1013).loc1 k₁₄ I.fR, ns := k₁₄.ns n₁₃ (ni (Ne.symm RL)), C := I.C.keeps eH, tg := ⟨_, nn₂, t₁₃.but k₁₄.keep (ni aR) (ni dR), ?_⟩, ls := ⟨_, l₁₄, ?_⟩,
                   eB := fun b o e => k₁₄.keep _ _ (ni fun q => by rw [q, hideAll_none _ (by simp)] at e; cases e) (of_hideAll _ e), bL := hideAll_none _ (by simp), bA := hideAll_none _ (by simp), bR := hideAll_none _ (by simp), TB := I.TB.keeps eH, b0 := ext_tr I.b0 eH } (by simp) ?_
        · rw [Array.toList_push]
          exact Paired.snoc (tr.keeps eH) (.inl (tp p pa pL pR _ _ (k1013.ext _ _ p₁₀)))
        · exact Paired.snoc (lr.keeps eH) (tp p' pa' pL' pR' _ _ hp')
        · intro word i e
          have hi := (List.getElem?_eq_some_iff.mp e).1
          by_cases hx : i = (init ++ [last]).length
          · subst hx
            rw [List.getElem?_append_right (Nat.le_refl _)] at e
            simp at e
          · simp at hi hx ⊢; omega
      · rw [if_neg (by simp [hc])]
        refine wpAny_execs_nil (same s₆ k06 ?_)
        intro word i e
        have hi := (List.getElem?_eq_some_iff.mp e).1
        rw [hlen] at hi ⊢
        by_cases hx : i = init.length
        · subst hx
          simp at e
          exact absurd (by rw [e]) hc
        · omega
end
end Mine

namespace Mine

section
variable {prog : Program} {w : World} {A : Around} {E : Value → Shared → Prop} {s s' : Shared} {env : Env} {s₀ : Shared} {L fa a d R : Addr} {cd : Value} {n tn : Nat} {LR IRows rows : List Row} {m : Str → Option Value} {B : Heap}

theorem below_law (hfr : A.frames = some [lawEnv L fa cd]) (ns : s.heap.Ns L m) : Below A (hideAll s.heap [L]) [lawEnv L fa cd] s.heap :=
  ⟨hfr, ext_of_hide, .cons (by show (scopeOfS (topSt 25)).kind ≠ .module; decide) rfl ns hide_none trivial⟩
theorem Kb.kp (b : Kb (hideAll s.heap [L]) s s') : Kp [L] s s' := ⟨b.gens, b.drawn, b.os, fun c o hc e => b.base c o (hideAll_get _ e hc)⟩
theorem LawI.kb (I : LawI w s₀ L a d R LR IRows rows tn m B s) (b : Kb (hideAll s.heap [L]) s s') : LawI w s₀ L a d R LR IRows rows tn m B s' := by
  obtain ⟨items, nn, t, tr⟩ := I.tg
  obtain ⟨rvs, l, lr⟩ := I.ls
  have k := Kb.kp b
  exact { I with kp := I.kp.loc1 k I.fL, ns := b.slots.ns I.ns, tg := ⟨items, nn, t.but k.keep (ni (t.ns_ne I.ns)) (ni I.dL), tr⟩, ls := ⟨rvs, l.but k.keep (ni (l.ns_ne I.ns)), lr⟩, eB := I.eB.loc I.bL k }

theorem strNe {x y : Str} {t u : Tok} {Q : Value → Shared → Prop} (r : Room A n) (hx : PyData.strOk x = true) (hy : PyData.strOk y = true) (h : Q (.bool (!decide (x = y))) s) : wpAny (model prog w) A (compareOp .NotEq (.str x t) (.str y u)) Q E s := by
  have e : PyData.eqv (.str x) (.str y) = decide (x = y) := by simp [PyData.eqv, beqd]
  have sh : ∀ z : Str, PyData.strOk z = true → SeqAt.shaped (.str z) = true := fun z hz => by simp [SeqAt.shaped, PyData.canLay0, PyData.depth, hz]
  exact ne_t r (Reads.str x t) (Reads.str y u) (sh x hx) (sh y hy) (by rw [e]; exact h)

/-- f(word, tags) -/
theorem ev_wt {f : Str} {ad : Addr} {p₁ p₂ p₃ p₄ : Pos} {word : Str} {tw : Tok} {Q : Value → Shared → Prop} (T : Top0 w s.heap) (I : LawI w s₀ L a d R LR IRows rows tn m B s) (mw : m "word" = some (.str word tw))
    (ef : nsIn (KK w) mainGlobals f = some (some (.ref ad))) (kf : keepIn (KK w) (.ref ad) = true)
    (h : wpAny (model prog w) A (call (.ref ad) [.str word tw, .ref a]) Q E s) (hx : (lawEnv L fa cd).kindOf f = some .globalImplicit := by rfl) (hd : (f == ("__debug__" : Str)) = false := by decide) :
    wpAny (model prog w) A (eval (.Call (.Name f p₁) [.Name "word" p₂, .Name "tags" p₃] [] p₄) (lawEnv L fa cd)) Q E s :=
  Call_Name rfl (nm_g T ef (callWith_K T.K kf (spliced_more (nm_l I.ns mw (spliced_more (nm_l I.ns I.mt (spliced_none ⟨T.K, h⟩)))))) rfl hx rfl hd)

/-- due is a text: all three tell it -/
theorem again_str {Q : Flow → Shared → Prop} {word z : Str} {tw tz : Tok} (r : Room A (n + 9)) (hfr : A.frames = some [lawEnv L fa cd]) (I : LawI w s₀ L a d R LR IRows rows tn m B s) (mw : m "word" = some (.str word tw)) (hok : okR (nmr word)) (hlo : lastOk rows) (hl : rows.length ≤ 1000)
    (mdue : m "due" = some (.str z tz)) (hz : PyData.strOk z = true) (hres : (seRes word rows = (none, none) ∧ z = "none") ∨ ∃ p, seRes word rows = (some p, none) ∧ z = "open")
    (h : ∀ s', Kp [L] s s' → LawI w s₀ L a d R LR IRows rows tn m B s' → Q .brk s') :
    wpAny (model prog w) A (exec (againBody.getD 2 (.Pass default)) (lawEnv L fa cd)) Q E s := by
  have hsl : (100000 : Nat) ≤ sizeLine := by rw [sizeLine_eq]; decide
  have post : ∀ (s : Shared) (Q : Value → Shared → Prop) (found : Nat → Nat → Prop), (∀ s' t, Kb (hideAll s.heap [L]) s s' → Q (.str z t) s') → TryPost (hideAll s.heap [L]) word rows s Q found := by
    intro s Q found hq
    unfold TryPost
    rcases hres with ⟨e, rfl⟩ | ⟨p, e, rfl⟩ <;> rw [e] <;> exact hq
  have T := I.TB.keeps I.eB
  refine wpAny_If (isTrue_plain (Call_Name rfl (nm_b T (g_isinstance w) PyProof.Rows.Boot.«isinstance» (callWith_method1 (first := []) (spliced_more (nm_l I.ns mdue (spliced_more (nm_b T (g_str w) PyProof.Rows.Boot.«str» (spliced_none ?_)))))))))
  refine IsiPair.str_str (wpAny_truthy_bool ?_)
  rw [if_pos rfl]
  obtain ⟨items, nn, t, tr⟩ := I.tg
  have htl : items.size = rows.length := by simpa using tr.length
  -- where
  refine wpAny_execs_cons (wpAny_If (isTrue_or (wpAny_isTrue_Compare1 (ev_wt T I mw (g_where w) (k_k414 w) (where_call T r (below_law hfr I.ns) (I.TB.keeps (ext_hide I.eB I.bL)) t (by omega) (tr.keeps I.eB) (hlo word) hok (post s _ _ fun s₁ t₁ b₁ => ?_))))))
  have I₁ := I.kb b₁
  refine nm_l I₁.ns mdue (strNe r hz hz (wpAny_truthy_bool ?_))
  rw [if_neg (by simp)]
  -- get
  obtain ⟨items₁, nn₁, t₁', tr₁⟩ := I₁.tg
  have htl₁ : items₁.size = rows.length := by simpa using tr₁.length
  have T₁ := I₁.TB.keeps I₁.eB
  refine isTrue_or (wpAny_isTrue_Compare1 (ev_wt T₁ I₁ mw (g_get w) (k_k421 w) (lget_call T₁ r (below_law hfr I₁.ns) (I₁.TB.keeps (ext_hide I₁.eB I₁.bL)) t₁' (by omega) (tr₁.keeps I₁.eB) (hlo word) hok (post s₁ _ _ fun s₂ t₂ b₂ => ?_))))
  have I₂ := I₁.kb b₂
  refine nm_l I₂.ns mdue (strNe r hz hz (wpAny_truthy_bool ?_))
  rw [if_neg (by simp)]
  -- cut
  obtain ⟨items₂, nn₂, t₂', tr₂⟩ := I₂.tg
  have htl₂ : items₂.size = rows.length := by simpa using tr₂.length
  have T₂ := I₂.TB.keeps I₂.eB
  refine isTrue_or (wpAny_isTrue_Compare1 (ev_wt T₂ I₂ mw (g_cut w) (k_k428 w) (lcut_call T₂ r (below_law hfr I₂.ns) (I₂.TB.keeps (ext_hide I₂.eB I₂.bL)) t₂' (by omega) (tr₂.keeps I₂.eB) (hlo word) hok (post s₂ _ _ fun s₃ t₃ b₃ => ?_))))
  have I₃ := I₂.kb b₃
  refine nm_l I₃.ns mdue (strNe r hz hz (wpAny_truthy_bool ?_))
  rw [if_neg (by simp)]
  -- plain
  obtain ⟨items₃, nn₃, t₃', tr₃⟩ := I₃.tg
  obtain ⟨rvs, l, lr⟩ := I₃.ls
  have htl₃ : items₃.size = rows.length := by simpa using tr₃.length
  have T₃ := I₃.TB.keeps I₃.eB
  refine isTrue_or (wpAny_isTrue_Compare1 (ev_plain T₃ (n := n + 1) r I₃.ns I₃.mt (.inl ⟨d, nn₃, t₃'⟩) (tr₃.keeps I₃.eB) (by omega) fun s₄ P ys k₄ fP lP rP => nm_l (k₄.ns0 I₃.ns) I₃.mr (rowsNe r lP (l.keeps k₄.ext) rP (lr.keeps (ext_tr I₃.eB k₄.ext)) (wpAny_truthy_bool ?_))))
  rw [if_neg (by simp)]
  refine isTrue_or_nil (wpAny_execs_nil (wpAny_execs_cons (wpAny_Break ?_)))
  exact h s₄ ((((Kb.kp b₁).and (Kb.kp b₂)).and (Kb.kp b₃)).then k₄) (I₃.step k₄)
end
end Mine

namespace Mine

section
variable {prog : Program} {w : World} {A : Around} {E : Value → Shared → Prop} {s s' : Shared} {env : Env} {s₀ : Shared} {L fa a d R : Addr} {cd : Value} {n tn : Nat} {LR IRows rows : List Row} {m : Str → Option Value} {B : Heap}

theorem pairNe {x y : Addr} {i e : Int} {t u t' u' : Tok} {Q : Value → Shared → Prop} (r : Room A n) (hx : s.heap.get? x = some (tupO [.int i t, .int e u])) (hy : s.heap.get? y = some (tupO [.int i t', .int e u'])) (h : Q (.bool false) s) :
    wpAny (model prog w) A (compareOp .NotEq (.ref x) (.ref y)) Q E s := by
  have sh : SeqAt.shaped (.tuple [.int i, .int e]) = true := by simp [SeqAt.shaped, PyData.canLay0, PyData.canLayAll0, PyData.depth, PyData.depthAll]
  have ev : PyData.eqv (.tuple [.int i, .int e]) (.tuple [.int i, .int e]) = true := by simp [PyData.eqv, PyData.eqvAll]
  refine ne_t r (reads_tuple_at (xs := [.int i, .int e]) (as := []) hx rfl rfl (.cons (as := []) (.int _ _) (.cons (as := []) (.int _ _) .nil))) (reads_tuple_at (xs := [.int i, .int e]) (as := []) hy rfl rfl (.cons (as := []) (.int _ _) (.cons (as := []) (.int _ _) .nil))) sh sh ?_
  rw [ev]; exact h

/-- due[k] -/
theorem due_at {x : Addr} {i e : Int} {t u : Tok} {k : Nat} {v : Value} {p₁ p₂ p₃ : Pos} {kk : Nat} {Q : Value → Shared → Prop} (hn : s.heap.Ns L m) (md : m "due" = some (.ref x)) (hx : s.heap.get? x = some (tupO [.int i t, .int e u])) (hv : [Value.int i t, .int e u][k]? = some v) (hk : k < 2)
    (h : ∀ s', Kp [] s s' → Q v s') : wpAny (model prog w) A (eval (.Subscript (.Name "due" p₁) (.Constant (.int (k : Int)) kk p₂) p₃) (lawEnv L fa cd)) Q E s := by
  refine Subscript_ (nm_l hn md (ev_int fun s₁ u₁ k₁ => ?_))
  exact tup_get (isTup (k₁.ext _ _ hx)) (by omega) (by omega) (by simpa using hv) (h s₁ k₁)

/-- t.clear(), t a Tags -/
theorem mclear {o : Expr} {apos pos : Pos} {pl : Sem Bool} {Q : Value → Shared → Prop}
    (h : wpAny (model prog w) A (eval o env) (fun ov s₁ => ∃ a d items n, ov = .ref a ∧ (KK w).In s₁.heap ∧ TagsAt s₁.heap a d items n ∧ items.size ≤ sizeLine ∧ ∀ s₃ n', Kp [a] s₁ s₃ → TagsAt s₃.heap a d #[] n' → Q .none s₃) E s)
    (he : eval (.Call (.Attribute o "clear" apos) [] [] pos) env = (do
      let ov ← eval o env
      standAt apos.atName
      let (f, first) ← holding [ov] (getMethod ov "clear" pl)
      callWith pos f first (backTo pos (starEach [] env)) []) := by rfl) :
    wpAny (model prog w) A (eval (.Call (.Attribute o "clear" apos) [] [] pos) env) Q E s := by
  refine MethodCall_ (wpAny_mono h (fun ov s₁ h₁ => ?_) fun _ _ e => e) he
  obtain ⟨a, d, items, n, rfl, X, t, hsz, hq⟩ := h₁
  refine tg_getMethod X t (k_clear w) md_clear ?_
  refine callWith_method0 (tg_clear X t hsz ?_)
  obtain ⟨n', t'⟩ := t.upd (fun _ => #[])
  exact hq _ n' (.ofBut fun b o hb e => (Heap.get?_update_other _ _ (by simp at hb; exact Ne.symm hb)).trans e) t'

/-- due found: the three tell it, and the rows go out -/
theorem again_found {Q : Flow → Shared → Prop} {word : Str} {tw : Tok} {x : Addr} {i j : Nat} {ti tj : Tok} (r : Room A (n + 9)) (hfr : A.frames = some [lawEnv L fa cd]) (I : LawI w s₀ L a d R LR IRows rows tn m B s) (mw : m "word" = some (.str word tw)) (hok : okR (nmr word)) (hlo : lastOk rows) (hl : rows.length ≤ 1000)
    (mdue : m "due" = some (.ref x)) (hx : s.heap.get? x = some (tupO [.int (i : Int) ti, .int ((j : Int) + 1) tj])) (hres : seRes word rows = (some i, some j))
    (h : ∀ s' m' B' R' rows', Kp [L, a] s s' → LawI w s₀ L a d R' LR IRows rows' tn m' B' s' → rows'.length ≤ rows.length → m' "word" = some (.str word tw) → Q .next s') :
    wpAny (model prog w) A (execs (againBody.drop 2) (lawEnv L fa cd)) Q E s := by
  have hsl : (100000 : Nat) ≤ sizeLine := by rw [sizeLine_eq]; decide
  obtain ⟨hij, hjl⟩ := seRes_found hres
  have T := I.TB.keeps I.eB
  have dueE : ∀ {s : Shared} {k : Nat} {v : Value} {p₁ p₂ p₃ : Pos} {kk : Nat} {Q : Value → Shared → Prop} {E : Value → Shared → Prop} {m : Str → Option Value}, s.heap.Ns L m → m "due" = some (.ref x) → s.heap.get? x = some (tupO [.int (i : Int) ti, .int ((j : Int) + 1) tj]) → [Value.int (i : Int) ti, .int ((j : Int) + 1) tj][k]? = some v → k < 2 →
      (∀ s', Kp [] s s' → Q v s') → wpAny (model prog w) A (eval (.Subscript (.Name "due" p₁) (.Constant (.int (k : Int)) kk p₂) p₃) (lawEnv L fa cd)) Q E s := fun a b c d e f => due_at a b c d e f
  -- isinstance(due, str)
  refine wpAny_execs_cons (wpAny_If (isTrue_plain (Call_Name rfl (nm_b T (g_isinstance w) PyProof.Rows.Boot.«isinstance» (callWith_method1 (first := []) (spliced_more (nm_l I.ns mdue (spliced_more (nm_b T (g_str w) PyProof.Rows.Boot.«str» (spliced_none ?_))))))))))
  refine IsiPair.tuple_str hx rfl (wpAny_truthy_bool ?_)
  rw [if_neg (by decide)]
  refine wpAny_execs_nil ?_
  have k₁ : Kp [] s { s with toks := s.toks + 1 } := .tok
  generalize ({ s with toks := s.toks + 1 } : Shared) = s₁ at k₁ ⊢
  have I₁ := I.step k₁
  have hx₁ := k₁.ext _ _ hx
  have T₁ := I₁.TB.keeps I₁.eB
  obtain ⟨items, nn, t, tr⟩ := I₁.tg
  obtain ⟨rvs, l, lr⟩ := I₁.ls
  have htl : items.size = rows.length := by simpa using tr.length
  have hrl : rvs.length = rows.length := lr.length
  have aL := t.ns_ne I₁.ns
  have RL := l.ns_ne I₁.ns
  have aR := l.tg_ne t
  -- the place, told
  refine wpAny_execs_cons (wpAny_If (isTrue_or (wpAny_isTrue_Compare1 (ev_wt T₁ I₁ mw (g_se w) (k_k374 w) (se_call T₁ (n := n + 2) r (below_law hfr I₁.ns) t (by omega) (tr.keeps I₁.eB) (hlo word) hok ?_)))))
  unfold SePost
  rw [hres]
  intro s₂ y ty uy k₂ hy
  have n₂ := k₂.ns0 I₁.ns
  refine nm_l n₂ mdue (pairNe r hy (k₂.ext _ _ hx₁) (wpAny_truthy_bool ?_))
  rw [if_neg (by decide)]
  have I₂ := I₁.step k₂
  refine isTrue_or (wpAny_isTrue_Compare1 (ev_plain (k₂.top T₁) (n := n + 1) r n₂ I₁.mt (.inl ⟨d, nn, t.keeps k₂.ext⟩) (tr.keeps I₂.eB) (by omega) fun s₃ P ys k₃ fP lP rP => nm_l (k₃.ns0 n₂) I₁.mr (rowsNe r lP (l.keeps (k₂.then k₃).ext) rP (lr.keeps (ext_tr I₂.eB k₃.ext)) (wpAny_truthy_bool ?_))))
  rw [if_neg (by simp)]
  refine isTrue_or_nil (wpAny_execs_nil ?_)
  have k13 := k₂.then k₃
  have I₃ := I₁.step k13
  have hx₃ := k13.ext _ _ hx₁
  have T₃ := k13.top T₁
  -- told
  refine wpAny_execs_cons (asg (ev_wt T₃ I₃ mw (g_get w) (k_k421 w) (lget_call T₃ r (below_law hfr I₃.ns) (I₃.TB.keeps (ext_hide I₃.eB I₃.bL)) (t.keeps k13.ext) (by omega) (tr.keeps I₃.eB) (hlo word) hok ?_)))
  unfold TryPost
  rw [hres]
  intro s₄ b db its nb k₄ fb fdb tb hits
  have I₄ := I₃.step k₄
  refine ⟨m, I₄.ns, fun s₅ k₅ n₅ => ?_⟩
  have I₅ := I₄.name k₅ n₅ (by decide) (by decide) (by decide) (by decide) (by decide) (by decide) (by decide)
  have bL : b ≠ L := Ns.ne I₃.ns fb
  have dbL : db ≠ L := Ns.ne I₃.ns fdb
  have xL : x ≠ L := fun q => by obtain ⟨o, _, _, ho, hd, _⟩ := I.ns; rw [q, ho] at hx; cases hx; cases hd
  have tb₅ := tb.but k₅.keep (ni bL) (ni dbL)
  have hx₅ : s₅.heap.get? x = _ := k₅.keep _ _ (ni xL) (k₄.ext _ _ hx₃)
  have ba : b ≠ a := fun q => by have := (t.keeps k13.ext).obj; rw [← q, fb] at this; cases this
  have bd : b ≠ d := fun q => by have := (t.keeps k13.ext).dic; rw [← q, fb] at this; cases this
  have bR : b ≠ R := fun q => by obtain ⟨c, e⟩ := l.keeps k13.ext; rw [← q, fb] at e; cases e
  have bx : b ≠ x := fun q => by rw [q, hx₃] at fb; cases fb
  have t₅ : TagsAt s₅.heap a d items nn := ((t.keeps k13.ext).keeps k₄.ext).but k₅.keep (ni aL) (ni I.dL)
  have l₅ : Ls s₅.heap R rvs := ((l.keeps k13.ext).keeps k₄.ext).but k₅.keep (ni RL)
  have mw₅ : (fun z => if z = ("told" : Str) then some (Value.ref b) else m z) "word" = some (.str word tw) := by show (if _ then _ else _) = _; rw [if_neg (by decide)]; exact mw
  have md₅ : (fun z => if z = ("told" : Str) then some (Value.ref b) else m z) "due" = some (.ref x) := by show (if _ then _ else _) = _; rw [if_neg (by decide)]; exact mdue
  have mb₅ : (fun z => if z = ("told" : Str) then some (Value.ref b) else m z) "told" = some (.ref b) := if_pos rfl
  generalize (fun z => if z = ("told" : Str) then some (Value.ref b) else m z) = m₅ at n₅ I₅ mw₅ md₅ mb₅
  have T₅ := I₅.TB.keeps I₅.eB
  have tits : TagsR B its.toList ((rows.drop i).take (j + 1 - i)) := by rw [hits]; exact Paired.take _ (Paired.drop _ tr)
  have hitl : its.size ≤ 1000 := by have : its.toList.length = ((rows.drop i).take (j + 1 - i)).length := tits.length
                                    simp at this; omega
  -- isinstance(told, Tags), the rows told
  refine wpAny_execs_cons (wpAny_If (isTrue_or (isTrue_not (isTrue_plain (Call_Name rfl (nm_b T₅ (g_isinstance w) PyProof.Rows.Boot.«isinstance» (callWith_method1 (first := []) (spliced_more (nm_l n₅ mb₅ (spliced_more (nm_g T₅ (g_tags w) (spliced_none ?_))))))))))))
  refine isi_call T₅.K (fun M => tb₅.type) (tags_is w) (by intro q; cases q) (wpAny_truthy_bool ?_)
  rw [if_neg (by decide)]
  refine isTrue_or (wpAny_isTrue_Compare1 (ev_plain T₅ (n := n + 1) r n₅ mb₅ (.inl ⟨db, nb, tb₅⟩) (tits.keeps I₅.eB) (by omega) fun s₆ P' ys' k₆ fP' lP' rP' => Subscript_ (nm_l (k₆.ns0 n₅) I₅.mr (ev_slice (dueE (k := 0) (k₆.ns0 n₅) md₅ (k₆.ext _ _ hx₅) rfl (by decide) fun s₇ k₇ => dueE (k := 1) ((k₆.then k₇).ns0 n₅) md₅ ((k₆.then k₇).ext _ _ hx₅) rfl (by decide) fun s₈ k₈ s₉ sl k₉ hsl' => ?_)))))
  have k59 := ((k₆.then k₇).then k₈).then k₉
  have hj1 : (j : Int) + 1 = ((j + 1 : Nat) : Int) := by omega
  rw [hj1] at hsl'
  refine ls_slice (l₅.keeps k59.ext) (by omega) hsl' (.int _ _) (.int _ _) (slicePick_run _ i (j + 1) (by simp; omega) (by omega)) fun s₁₀ G k₁₀ fG lG => ?_
  have k510 := k59.then k₁₀
  have hrG : RowsR s₁₀.heap ((rvs.toArray.toList.drop i).take (j + 1 - i)) ((rows.drop i).take (j + 1 - i)) := by
    have := Paired.take (j + 1 - i) (Paired.drop i (lr.keeps (ext_tr I₅.eB k510.ext)))
    show Paired _ _ _
    simpa using this
  refine rowsNe r (lP'.keeps ((((k₇.then k₈).then k₉).then k₁₀).ext)) lG (rP'.keeps ((((k₇.then k₈).then k₉).then k₁₀).ext)) hrG (wpAny_truthy_bool ?_)
  rw [if_neg (by simp)]
  refine isTrue_or_nil (wpAny_execs_nil ?_)
  -- told.clear()
  have I₁₀ := I₅.step k510
  have T₁₀ := k510.top T₅
  refine wpAny_execs_cons (wpAny_Expr_any (mclear (nm_l I₁₀.ns mb₅ ⟨b, db, its, nb, rfl, T₁₀.K, tb₅.keeps k510.ext, by omega, fun s₁₁ n' k₁₁ _ => ?_⟩)))
  have fb0 : s₃.heap.get? b = none := fb
  have n₁₁ := k₁₁.ns I₁₀.ns (ni (Ne.symm bL))
  have t₁₁ : TagsAt s₁₁.heap a d items nn := (t₅.keeps k510.ext).but k₁₁.keep (ni (Ne.symm ba)) (ni (Ne.symm bd))
  have l₁₁ : Ls s₁₁.heap R rvs := (l₅.keeps k510.ext).but k₁₁.keep (ni (Ne.symm bR))
  have bB : B.get? b = none := ext_fresh I₃.eB fb0
  have e₁₁ : Ext B s₁₁.heap := I₁₀.eB.loc bB k₁₁
  have hx₁₁ : s₁₁.heap.get? x = _ := k₁₁.keep _ _ (ni (Ne.symm bx)) (k510.ext _ _ hx₅)
  have kp₁₁ : Kp [] s₀ s₁₁ := I₁₀.kp.loc1 k₁₁ (I₃.kp.fresh fb0)
  have I₁₁ : LawI w s₀ L a d R LR IRows rows tn m₅ B s₁₁ := { I₁₀ with kp := kp₁₁, ns := n₁₁, tg := ⟨items, nn, t₁₁, tr⟩, ls := ⟨rvs, l₁₁, lr⟩, eB := e₁₁ }
  have kL : Kp [L, a] s s₁₁ := by
    have ka : Kp [L] s s₁₀ := (((k₁.then k13).then k₄).loc' k₅).then k510
    have kb : Kp ([L] ++ [b]) s s₁₁ := ka.trans k₁₁
    refine ⟨kb.gens, kb.drawn, kb.os, fun c o hc e => kb.keep c o ?_ e⟩
    simp only [List.mem_cons, List.not_mem_nil, or_false, not_or, List.mem_append] at hc ⊢
    exact ⟨hc.1, fun q => by rw [q] at e; have := k13.ext _ _ (k₁.ext _ _ e); rw [fb0] at this; cases this⟩
  have T₁₁ := I₁₁.TB.keeps e₁₁
  -- rest
  refine wpAny_execs_cons (asg (wpAny_BinOp (Subscript_ (nm_l n₁₁ I₁₁.mr (ev_upto (dueE (k := 0) n₁₁ md₅ hx₁₁ rfl (by decide) fun s₁₂ k₁₂ s₁₃ sl₂ k₁₃ hsl₂ => ?_))))))
  have k1113 := k₁₂.then k₁₃
  refine ls_slice (l₁₁.keeps k1113.ext) (by omega) hsl₂ .none (.int _ _) (slicePick_upto' _ i) fun s₁₄ G₁ k₁₄ fG₁ lG₁ => ?_
  have k1114 := k1113.then k₁₄
  refine Subscript_ (nm_l (k1114.ns0 n₁₁) I₁₁.mr (ev_from (dueE (k := 1) (k1114.ns0 n₁₁) md₅ (k1114.ext _ _ hx₁₁) rfl (by decide) fun s₁₅ k₁₅ s₁₆ sl₃ k₁₆ hsl₃ => ?_)))
  rw [hj1] at hsl₃
  have k1116 := (k1114.then k₁₅).then k₁₆
  refine ls_slice (l₁₁.keeps k1116.ext) (by omega) hsl₃ (.int _ _) .none (slicePick_from' _ (j + 1)) fun s₁₇ G₂ k₁₇ fG₂ lG₂ => ?_
  have k1117 := k1116.then k₁₇
  refine ls_add (lG₁.keeps ((k₁₅.then k₁₆).then k₁₇).ext) lG₂ (by simp; omega) fun s₁₈ R' k₁₈ fR' lR' => ⟨m₅, (k1117.then k₁₈).ns0 n₁₁, fun s₁₉ k₁₉ n₁₉ => ?_⟩
  have k1118 := k1117.then k₁₈
  have I₁₈ := I₁₁.step k1118
  have R'L : R' ≠ L := Ns.ne (k1117.ns0 n₁₁) fR'
  have fR'11 : s₁₁.heap.get? R' = none := k1117.fresh fR'
  have aR' : a ≠ R' := fun q => by have := t₁₁.obj; rw [q, fR'11] at this; cases this
  have I₁₉ := I₁₈.name k₁₉ n₁₉ (by decide) (by decide) (by decide) (by decide) (by decide) (by decide) (by decide)
  have lR'₁₉ := lR'.but k₁₉.keep (ni R'L)
  have bR' : B.get? R' = none := ext_fresh e₁₁ fR'11
  have rR' : RowsR B (rvs.toArray.toList.take i ++ rvs.toArray.toList.drop (j + 1)) (rows.take i ++ rows.drop (j + 1)) := by
    have := Paired.app (Paired.take i lr) (Paired.drop (j + 1) lr)
    show Paired _ _ _
    simpa using this
  have hx₁₉ : s₁₉.heap.get? x = _ := k₁₉.keep _ _ (ni xL) (k1118.ext _ _ hx₁₁)
  have mw₁₉ : (fun z => if z = ("rest" : Str) then some (Value.ref R') else m₅ z) "word" = some (.str word tw) := by show (if _ then _ else _) = _; rw [if_neg (by decide)]; exact mw₅
  have mr₁₉ : (fun z => if z = ("rest" : Str) then some (Value.ref R') else m₅ z) "rest" = some (.ref R') := if_pos rfl
  generalize (fun z => if z = ("rest" : Str) then some (Value.ref R') else m₅ z) = m₁₉ at n₁₉ I₁₉ mw₁₉ mr₁₉
  generalize rvs.toArray.toList.take i ++ rvs.toArray.toList.drop (j + 1) = rvs' at lR'₁₉ rR'
  have hrl' : (rows.take i ++ rows.drop (j + 1)).length ≤ rows.length := by simp; omega
  have T₁₉ := I₁₉.TB.keeps I₁₉.eB
  obtain ⟨items₁₉, nn₁₉, t₁₉, tr₁₉⟩ := I₁₉.tg
  obtain ⟨rvs₁₉, l₁₉, lr₁₉⟩ := I₁₉.ls
  have htl₁₉ : items₁₉.size = rows.length := by simpa using tr₁₉.length
  -- the rows are as they were; the cut
  refine wpAny_execs_cons (wpAny_If (isTrue_or (wpAny_isTrue_Compare1 (ev_plain T₁₉ (n := n + 1) r n₁₉ I₁₉.mt (.inl ⟨d, nn₁₉, t₁₉⟩) (tr₁₉.keeps I₁₉.eB) (by omega) fun s₂₀ P₂ ys₂ k₂₀ fP₂ lP₂ rP₂ => nm_l (k₂₀.ns0 n₁₉) I₁₉.mr (rowsNe r lP₂ (l₁₉.keeps k₂₀.ext) rP₂ (lr₁₉.keeps (ext_tr I₁₉.eB k₂₀.ext)) (wpAny_truthy_bool ?_))))))
  rw [if_neg (by simp)]
  have I₂₀ := I₁₉.step k₂₀
  have T₂₀ := k₂₀.top T₁₉
  refine isTrue_or (wpAny_isTrue_Compare1 (ev_wt T₂₀ I₂₀ mw₁₉ (g_cut w) (k_k428 w) (lcut_call T₂₀ r (below_law hfr I₂₀.ns) (I₂₀.TB.keeps (ext_hide I₂₀.eB I₂₀.bL)) (t₁₉.keeps k₂₀.ext) (by omega) (tr₁₉.keeps I₂₀.eB) (hlo word) hok ?_)))
  unfold TryPost
  rw [hres]
  intro s₂₁ its' m' k₂₁ t₂₁ hits'
  have n₂₁ := k₂₁.ns I₂₀.ns (ni (Ne.symm aL))
  refine nm_l n₂₁ I₁₉.mt (isnot_ref_same (wpAny_truthy_bool ?_))
  rw [if_neg (by decide)]
  have e₂₁ : Ext B s₂₁.heap := I₂₀.eB.loc I.bA k₂₁
  have T₂₁ := I.TB.keeps e₂₁
  have tr₂₁ : TagsR B its'.toList (rows.take i ++ rows.drop (j + 1)) := by
    rw [hits']
    exact Paired.app (Paired.take i tr₁₉) (Paired.drop (j + 1) tr₁₉)
  have htl₂₁ : its'.size = (rows.take i ++ rows.drop (j + 1)).length := by simpa using tr₂₁.length
  have lR'₂₁ := (lR'₁₉.keeps k₂₀.ext).but k₂₁.keep (ni (Ne.symm aR'))
  refine isTrue_or (wpAny_isTrue_Compare1 (ev_plain T₂₁ (n := n + 1) r n₂₁ I₁₉.mt (.inl ⟨d, m', t₂₁⟩) (tr₂₁.keeps e₂₁) (by omega) fun s₂₂ P₃ ys₃ k₂₂ fP₃ lP₃ rP₃ => nm_l (k₂₂.ns0 n₂₁) mr₁₉ (rowsNe r lP₃ (lR'₂₁.keeps k₂₂.ext) rP₃ (rR'.keeps (ext_tr e₂₁ k₂₂.ext)) (wpAny_truthy_bool ?_))))
  rw [if_neg (by simp)]
  refine isTrue_or_nil (wpAny_execs_nil ?_)
  have n₂₂ := k₂₂.ns0 n₂₁
  have dR' : d ≠ R' := lR'₂₁.dic_ne t₂₁
  -- rows = rest
  refine wpAny_execs_cons (asg (nm_l n₂₂ mr₁₉ ⟨m₁₉, n₂₂, fun s₂₃ k₂₃ n₂₃ => wpAny_execs_nil ?_⟩))
  have kp₂₂ : Kp [] s₀ s₂₂ := (I₂₀.kp.loc1 k₂₁ I.fA).then k₂₂
  have bs : ∀ b ∈ [L, a, R'], B.get? b = none := by simp; exact ⟨I.bL, I.bA, bR'⟩
  have e₂₃ : Ext B s₂₃.heap := (ext_tr e₂₁ k₂₂.ext).loc I.bL k₂₃
  have eH := hide3 e₂₃ bs
  have mw₂₃ : (fun z => if z = ("rows" : Str) then some (Value.ref R') else m₁₉ z) "word" = some (.str word tw) := by show (if _ then _ else _) = _; rw [if_neg (by decide)]; exact mw₁₉
  have q1 : Kp [L, a] s₁₁ s₂₀ := ((k1118.loc' k₁₉).then k₂₀).mono (l := [L]) (l' := [L, a]) (by intro c hc; simp at hc; simp [hc])
  have q2 : Kp [L, a] s₂₀ s₂₁ := k₂₁.mono (l := [a]) (l' := [L, a]) (by intro c hc; simp at hc; simp [hc])
  have q3 : Kp [L, a] s₂₁ s₂₃ := (k₂₂.loc' k₂₃).mono (l := [L]) (l' := [L, a]) (by intro c hc; simp at hc; simp [hc])
  have k1123 : Kp [L, a] s₁₁ s₂₃ := (q1.and q2).and q3
  refine h s₂₃ _ (hideAll s₂₃.heap [L, a, R']) R' (rows.take i ++ rows.drop (j + 1)) (kL.and k1123)
    { I₁₉ with kp := kp₂₂.loc1 k₂₃ I.fL, ns := n₂₃, C := (I₁₉.C.set (x := "rows") (v := .ref R') (by decide) (by decide) (by decide) (by decide)).keeps eH, turn := I₁₉.turn.imp fun t e => (by rw [if_neg (by decide)]; exact e), mt := by rw [if_neg (by decide)]; exact I₁₉.mt, mr := if_pos rfl,
                 tg := ⟨its', m', (t₂₁.keeps k₂₂.ext).but k₂₃.keep (ni aL) (ni I.dL), tr₂₁.keeps eH⟩, ls := ⟨rvs', (lR'₂₁.keeps k₂₂.ext).but k₂₃.keep (ni R'L), rR'.keeps eH⟩, eB := ext_of_hide, bL := hideAll_none _ (by simp), bA := hideAll_none _ (by simp), bR := hideAll_none _ (by simp), fR := kp₁₁.fresh fR'11, TB := I.TB.keeps eH, b0 := ext_tr I.b0 eH } hrl' mw₂₃
end
end Mine

namespace Mine

/-- iterators stand -/
def FK (s s' : Shared) : Prop := ∀ c o vs, o.data = .fields vs → s.heap.get? c = some o → s'.heap.get? c = some o
theorem FK.trans {s s' s'' : Shared} (x : FK s s') (y : FK s' s'') : FK s s'' := fun c o vs h e => y c o vs h (x c o vs h e)
theorem Kp.fk {s s' : Shared} (k : Kp [] s s') : FK s s' := fun c o _ _ e => k.ext _ _ e

section
variable {prog : Program} {w : World} {A : Around} {E : Value → Shared → Prop} {s s' : Shared} {env : Env} {s₀ : Shared} {L fa a d R : Addr} {cd : Value} {n tn : Nat} {LR IRows rows : List Row} {m : Str → Option Value} {B : Heap}

theorem LawI.fk (I : LawI w s₀ L a d R LR IRows rows tn m B s) {l : List Addr} (k : Kp l s s') (h : ∀ b ∈ l, b = L ∨ b = a ∨ b = R) : FK s s' := fun c o vs hd e => k.keep c o (fun hm => by
  obtain ⟨items, nn, t, tr⟩ := I.tg
  obtain ⟨rvs, ⟨c', l⟩, lr⟩ := I.ls
  obtain ⟨o', _, _, ho, hd', _⟩ := I.ns
  rcases h c hm with rfl | rfl | rfl
  · rw [ho] at e; cases e; rw [hd'] at hd; cases hd
  · rw [t.obj] at e; cases e; cases hd
  · rw [l] at e; cases e; cases hd) e

theorem again_turn {Q : Flow → Shared → Prop} {word : Str} {tw : Tok} (r : Room A (n + 9)) (hfr : A.frames = some [lawEnv L fa cd]) (I : LawI w s₀ L a d R LR IRows rows tn m B s) (mw : m "word" = some (.str word tw)) (hok : okR (nmr word)) (hl : rows.length ≤ 900)
    (h : ∀ s' m' B' R' rows', FK s s' → LawI w s₀ L a d R' LR IRows rows' tn m' B' s' → rows'.length ≤ rows.length + 1 → m' "word" = some (.str word tw) → Q .next s' ∧ Q .brk s') :
    wpAny (model prog w) A (execs againBody (lawEnv L fa cd)) Q E s := by
  have hsl : (100000 : Nat) ≤ sizeLine := by rw [sizeLine_eq]; decide
  refine wpAny_execs_cons (again0 (n := n + 1) r I (by omega) fun s₁ B₁ rows₁ k₁ I₁ hl₁ lo => ?_)
  have f₁ : FK s s₁ := I.fk k₁ (by simp)
  obtain ⟨rvs, l, lr⟩ := I₁.ls
  have hrl : rvs.length = rows₁.length := lr.length
  have T₁ := I₁.TB.keeps I₁.eB
  -- due told as a text
  have str : ∀ (z : Str), PyData.strOk z = true → ((seRes word rows₁ = (none, none) ∧ z = "none") ∨ ∃ p, seRes word rows₁ = (some p, none) ∧ z = "open") → ∀ s₂ t, Kp [] s₁ s₂ → ∃ m', s₂.heap.Ns L m' ∧ ∀ s₃, Kp [L] s₂ s₃ → s₃.heap.Ns L (fun y => if y = ("due" : Str) then some (Value.str z t) else m' y) →
      wpAny (model prog w) A (execs (againBody.drop 2) (lawEnv L fa cd)) Q E s₃ := by
    intro z hz hres s₂ t k₂
    have I₂ := I₁.step k₂
    refine ⟨m, I₂.ns, fun s₃ k₃ n₃ => ?_⟩
    have I₃ := I₂.name k₃ n₃ (by decide) (by decide) (by decide) (by decide) (by decide) (by decide) (by decide)
    have mw₃ : (fun y => if y = ("due" : Str) then some (Value.str z t) else m y) "word" = some (.str word tw) := by show (if _ then _ else _) = _; rw [if_neg (by decide)]; exact mw
    refine wpAny_execs_cons (again_str (n := n) r hfr I₃ mw₃ hok lo (by omega) (if_pos rfl) hz hres fun s₄ k₄ I₄ => ?_)
    exact (h s₄ _ B₁ R rows₁ ((f₁.trans (Kp.fk k₂)).trans ((I₂.fk k₃ (by simp)).trans (I₃.fk k₄ (by simp)))) I₄ hl₁ mw₃).2
  refine wpAny_execs_cons (asg (Call_Name rfl (nm_g T₁ (g_due w) (callWith_K T₁.K (k_k407 w) (spliced_more (nm_l I₁.ns I₁.mr (spliced_more (nm_l I₁.ns mw (spliced_none ⟨T₁.K, due_call (n := n + 2) T₁ r l (lr.keeps I₁.eB) (by omega) hok ?_⟩)))))))))
  unfold DuePost
  have hse := due_se word rows₁
  cases hp : placesL word rows₁ with
  | nil =>
    rw [hp] at hse
    intro s₂ t k₂
    exact str "none" (by decide +kernel) (.inl ⟨hse, rfl⟩) s₂ t k₂
  | cons p pl =>
    rw [hp] at hse
    dsimp only at hse ⊢
    cases hred : reduce rows₁.length (leftL rows₁ (p + 1) (rows₁.length - (p + 1))) with
    | none =>
      rw [hred] at hse
      intro s₂ t k₂
      exact str "open" (by decide +kernel) (.inr ⟨p, hse, rfl⟩) s₂ t k₂
    | some e =>
      rw [hred] at hse
      obtain ⟨j, hres, rfl⟩ := hse
      intro s₂ x ti tj k₂ fx hx
      have I₂ := I₁.step k₂
      refine ⟨m, I₂.ns, fun s₃ k₃ n₃ => ?_⟩
      have I₃ := I₂.name k₃ n₃ (by decide) (by decide) (by decide) (by decide) (by decide) (by decide) (by decide)
      have mw₃ : (fun y => if y = ("due" : Str) then some (Value.ref x) else m y) "word" = some (.str word tw) := by show (if _ then _ else _) = _; rw [if_neg (by decide)]; exact mw
      have xL : x ≠ L := fun q => by obtain ⟨o, _, _, ho, hd, _⟩ := I₂.ns; rw [q, ho] at hx; cases hx; cases hd
      refine again_found (n := n) r hfr I₃ mw₃ hok lo (by omega) (if_pos rfl) (k₃.keep _ _ (ni xL) hx) hres fun s₄ m₄ B₄ R₄ rows₄ k₄ I₄ hl₄ mw₄ => ?_
      exact (h s₄ m₄ B₄ R₄ rows₄ ((f₁.trans (Kp.fk k₂)).trans ((I₂.fk k₃ (fun b hb => by rw [List.mem_singleton.mp hb]; exact .inl rfl)).trans (I₃.fk k₄ (fun b hb => by simp at hb; rcases hb with rfl | rfl <;> simp)))) I₄ (by omega) mw₄).1
end
end Mine

namespace Mine

/-- all but records stand -/
def ExtD (B D : Heap) : Prop := ∀ b o, B.get? b = some o → (∀ vs, o.data ≠ .fields vs) → D.get? b = some o
theorem TupR.keepsD {h h' : Heap} {v : Value} {r : Row} (t : TupR h v r) (k : ExtD h h') : TupR h' v r := let ⟨z, a, c, x, o, n, e1, e2, e3, e4, e5, e6⟩ := t; ⟨z, a, c, x, o, n, e1, e2, e3, k _ _ e4 (fun vs q => by rw [e6] at q; cases q), e5, e6⟩
theorem DxR.keepsD {h h' : Heap} {v : Value} {r : Row} (t : DxR h v r) (k : ExtD h h') : DxR h' v r :=
  let ⟨z, a, dx, c, x, e1, e2, e3, e4⟩ := t; ⟨z, a, dx, c, x, e1, e2, e3, ⟨k _ _ e4.obj (fun vs q => by cases q), k _ _ e4.dic (fun vs q => by cases q)⟩⟩
theorem RowR.keepsD {h h' : Heap} {v : Value} {r : Row} (t : RowR h v r) (k : ExtD h h') : RowR h' v r := t.imp (·.keepsD k) (·.keepsD k)
theorem RowsR.keepsD {h h' : Heap} {vs : List Value} {rs : List Row} (t : RowsR h vs rs) (k : ExtD h h') : RowsR h' vs rs := Paired.imp (fun _ _ x => x.keepsD k) t
theorem TagsR.keepsD {h h' : Heap} {vs : List Value} {rs : List Row} (t : TagsR h vs rs) (k : ExtD h h') : TagsR h' vs rs := Paired.imp (fun _ _ x => x.keepsD k) t
theorem Ls.keepsD {h h' : Heap} {a : Addr} {ys : List Value} (x : Ls h a ys) (k : ExtD h h') : Ls h' a ys := x.imp fun _ e => k _ _ e (fun vs q => by cases q)
theorem TagsAt.keepsD {h h' : Heap} {a d : Addr} {its : Array Value} {n : Nat} (t : TagsAt h a d its n) (k : ExtD h h') : TagsAt h' a d its n := ⟨k _ _ t.obj (fun vs q => by cases q), k _ _ t.dic (fun vs q => by cases q)⟩
theorem LawC.keepsD {w : World} {LR IRows : List Row} {B B' : Heap} {m : Str → Option Value} (C : LawC w LR IRows B m) (k : ExtD B B') : LawC w LR IRows B' m := by
  obtain ⟨⟨a, d, i, n, e1, e2, e3⟩, ⟨b, bs, f1, f2, f3⟩, ⟨c, cs, g1, g2, g3⟩, ⟨d', ds, h1, h2, h3⟩, sz⟩ := C
  exact ⟨⟨a, d, i, n, e1, e2.keepsD k, e3.keepsD k⟩, ⟨b, bs, f1, f2.keepsD k, f3.keepsD k⟩, ⟨c, cs, g1, g2.keepsD k, g3.keepsD k⟩, ⟨d', ds, h1, h2.keepsD k, h3.keepsD k⟩, sz⟩

section
variable {prog : Program} {w : World} {A : Around} {E : Value → Shared → Prop} {s s' : Shared} {env : Env} {s₀ : Shared} {L fa a d R : Addr} {cd : Value} {n tn : Nat} {LR IRows rows : List Row} {m : Str → Option Value} {B : Heap}

/-- an iterator goes on -/
theorem LawI.iter (T : Top0 w s₀.heap) (I : LawI w s₀ L a d R LR IRows rows tn m B s) {J : Addr} {o : Obj} {vs : Array Value} (hJ : s.heap.get? J = some o) (ho : o.data = .fields vs) (fJ : s₀.heap.get? J = none) (k : Kp [J] s s') : LawI w s₀ L a d R LR IRows rows tn m (hideAll B [J]) s' := by
  obtain ⟨items, nn, t, tr⟩ := I.tg
  obtain ⟨rvs, l, lr⟩ := I.ls
  have kd : ExtD B (hideAll B [J]) := fun b o' e hd => hideAll_get _ e (ni fun q => by have := I.eB _ _ e; rw [q, hJ] at this; cases this; exact hd vs ho)
  have aJ : a ≠ J := fun q => by have := t.obj; rw [q, hJ] at this; cases this; cases ho
  have dJ : d ≠ J := fun q => by have := t.dic; rw [q, hJ] at this; cases this; cases ho
  have RJ : R ≠ J := fun q => by obtain ⟨c, e⟩ := l; rw [q, hJ] at e; cases e; cases ho
  have LJ : L ≠ J := fun q => by obtain ⟨o', _, _, e, hd, _⟩ := I.ns; rw [q, hJ] at e; cases e; rw [ho] at hd; cases hd
  have nn' : ∀ b, B.get? b = none → (hideAll B [J]).get? b = none := fun b e => ext_fresh ext_of_hide e
  have b0 : Ext s₀.heap (hideAll B [J]) := ext_hide I.b0 fJ
  exact { I with kp := I.kp.loc1 k fJ, ns := k.ns I.ns (ni LJ), C := I.C.keepsD kd, tg := ⟨items, nn, t.but k.keep (ni aJ) (ni dJ), tr.keepsD kd⟩, ls := ⟨rvs, l.but k.keep (ni RJ), lr.keepsD kd⟩,
                 eB := fun b o' e => k.keep _ _ (ni fun q => by rw [q, hideAll_none _ (by simp)] at e; cases e) (I.eB _ _ (of_hideAll _ e)), bL := nn' _ I.bL, bA := nn' _ I.bA, bR := nn' _ I.bR, TB := T.keeps b0, b0 := b0 }
end
end Mine

namespace Mine

section
variable {prog : Program} {w : World} {A : Around} {E : Value → Shared → Prop} {s s' : Shared} {env : Env} {s₀ : Shared} {L fa a d R : Addr} {cd : Value} {n tn : Nat} {LR IRows rows : List Row} {m : Str → Option Value} {B : Heap}

/-- an iterator goes on, a name is set -/
theorem LawI.iterN (T : Top0 w s₀.heap) (I : LawI w s₀ L a d R LR IRows rows tn m B s) {J : Addr} {o : Obj} {vs : Array Value} (hJ : s.heap.get? J = some o) (ho : o.data = .fields vs) (fJ : s₀.heap.get? J = none) (k : Kp [J, L] s s') {x : Str} {v : Value} (hn : s'.heap.Ns L (fun z => if z = x then some v else m z))
    (h1 : x ≠ "made") (h2 : x ≠ "listed") (h3 : x ≠ "handed") (h4 : x ≠ "inner") (h5 : x ≠ "turn") (h6 : x ≠ "tags") (h7 : x ≠ "rows") : LawI w s₀ L a d R LR IRows rows tn (fun z => if z = x then some v else m z) (hideAll B [J]) s' := by
  have I₁ := I.iter T hJ ho fJ (s' := s) .refl
  obtain ⟨items, nn, t, tr⟩ := I₁.tg
  obtain ⟨rvs, l, lr⟩ := I₁.ls
  have aJ : a ≠ J := fun q => by have := t.obj; rw [q, hJ] at this; cases this; cases ho
  have dJ : d ≠ J := fun q => by have := t.dic; rw [q, hJ] at this; cases this; cases ho
  have RJ : R ≠ J := fun q => by obtain ⟨c, e⟩ := l; rw [q, hJ] at e; cases e; cases ho
  have aL := t.ns_ne I.ns
  have RL := l.ns_ne I.ns
  have n2 : ∀ b, b ≠ J → b ≠ L → b ∉ [J, L] := fun b h h' => by simp; exact ⟨h, h'⟩
  exact { I₁ with kp := I.kp.loc k (by simp; exact ⟨fJ, I.fL⟩), ns := hn, C := I₁.C.set h1 h2 h3 h4, turn := I.turn.imp fun t e => (by rw [if_neg (Ne.symm h5)]; exact e), mt := by rw [if_neg (Ne.symm h6)]; exact I.mt, mr := by rw [if_neg (Ne.symm h7)]; exact I.mr,
                  tg := ⟨items, nn, t.but k.keep (n2 _ aJ aL) (n2 _ dJ I.dL), tr⟩, ls := ⟨rvs, l.but k.keep (n2 _ RJ RL), lr⟩,
                  eB := fun b o' e => k.keep _ _ (n2 _ (fun q => by rw [q, hideAll_none _ (by simp)] at e; cases e) (fun q => by rw [q, I₁.bL] at e; cases e)) (I₁.eB _ _ e) }

def J2 (w : World) (s₀ : Shared) (L a d : Addr) (LR IRows : List Row) (tn N : Nat) (word : Str) (tw : Tok) (I1 I2 : Addr) (o1 : Obj) (i : Nat) (s : Shared) : Prop :=
  ∃ m B R rows, LawI w s₀ L a d R LR IRows rows tn m B s ∧ rows.length ≤ N + i ∧ m "word" = some (.str word tw) ∧ (∃ o vs, s.heap.get? I2 = some o ∧ o.data = .fields vs) ∧ s.heap.get? I1 = some o1
def J1 (w : World) (s₀ : Shared) (L a d : Addr) (LR IRows : List Row) (tn : Nat) (I1 : Addr) (i : Nat) (s : Shared) : Prop :=
  ∃ m B R rows, LawI w s₀ L a d R LR IRows rows tn m B s ∧ rows.length ≤ 40 + 12 * i ∧ ∃ o vs, s.heap.get? I1 = some o ∧ o.data = .fields vs

/-- for again in range(12) -/
def againFor : Stmt := match lawSt 16 with
  | .For _ _ b _ _ => b.getD 1 (.Pass default)
  | _ => .Pass default
theorem law_again {Q : Flow → Shared → Prop} {word : Str} {tw : Tok} {N : Nat} {I1 : Addr} {o1 : Obj} {vs1 : Array Value} (T : Top0 w s₀.heap) (r : Room A (n + 9)) (hfr : A.frames = some [lawEnv L fa cd]) (I : LawI w s₀ L a d R LR IRows rows tn m B s) (hl : rows.length ≤ N) (hN : N ≤ 800) (mw : m "word" = some (.str word tw)) (hok : okR (nmr word))
    (h1 : s.heap.get? I1 = some o1) (ho1 : o1.data = .fields vs1)
    (h : ∀ s' m' B' R' rows', LawI w s₀ L a d R' LR IRows rows' tn m' B' s' → rows'.length ≤ N + 12 → s'.heap.get? I1 = some o1 → Q .next s') :
    wpAny (model prog w) A (exec againFor (lawEnv L fa cd)) Q E s := by
  have T₁ := I.TB.keeps I.eB
  refine wpAny_For (Call_Name rfl (nm_b T₁ (g_range w) PyProof.Rows.Boot.«range» (PyProof.Rows.callWith_type1 (spliced_more (ev_int fun s₁ u₁ k₁ => spliced_none ?_)))))
  refine range_iter1 (n := 12) (by decide) fun s₂ I2 k₂ hI2 hit => ?_
  have k02 := k₁.then k₂
  have I₂ := I.step k02
  have hIL : L ≠ I2 := Ne.symm (Ns.ne (k₁.ns0 I.ns) hI2)
  have f2 : s₀.heap.get? I2 = none := (I.kp.then k₁).fresh hI2
  have n12 : I1 ≠ I2 := fun q => by have := k₁.ext _ _ h1; rw [q, hI2] at this; cases this
  refine for_loop (Walks.range r.hd I2 0 1 12) (J2 w s₀ L a d LR IRows tn N word tw I1 I2 o1) (ni hIL) (by simpa using hit) ⟨m, B, R, rows, I₂, by omega, mw, ⟨_, _, hit, rfl⟩, k02.ext _ _ h1⟩ ?_ ?_ ?_
  · rintro i s' ⟨m', _, _, _, I', _⟩; exact ⟨m', I'.ns⟩
  · rintro i v sa sb E' hi ⟨tv, rfl⟩ ⟨ma, Ba, Ra, rowsa, Ia, hla, mwa, ⟨o, vs, ho, hov⟩, ha1⟩ kb hstore hst
    have nb := hstore ma Ia.ns
    have Ib := Ia.iterN T ho hov f2 kb nb (by decide) (by decide) (by decide) (by decide) (by decide) (by decide) (by decide)
    have mwb : (fun z => if z = ("again" : Str) then some (Value.int (0 + (i : Int) * 1) tv) else ma z) "word" = some (.str word tw) := by show (if _ then _ else _) = _; rw [if_neg (by decide)]; exact mwa
    have n1L : I1 ≠ L := fun q => by obtain ⟨o', _, _, e, hd, _⟩ := Ia.ns; rw [q] at ha1; rw [ha1] at e; cases e; rw [ho1] at hd; cases hd
    have hb1 : sb.heap.get? I1 = some o1 := kb.keep _ _ (by simp; exact ⟨n12, n1L⟩) ha1
    refine again_turn (n := n) r hfr Ib mwb hok (by omega) fun s' m' B' R' rows' fk I' hl' mw' => ?_
    have hst' : IsRangeIter s'.heap I2 (0 + ((i + 1 : Nat) : Int) * 1) (((12 : Nat) : Int) - ((i + 1 : Nat) : Int)) 1 := fk _ _ _ rfl hst
    have h1' : s'.heap.get? I1 = some o1 := fk _ _ _ ho1 hb1
    exact ⟨⟨hst', m', B', R', rows', I', by omega, mw', ⟨_, _, hst', rfl⟩, h1'⟩, h s' m' B' R' rows' I' (by omega) h1'⟩
  · rintro sa sb ⟨ma, Ba, Ra, rowsa, Ia, hla, mwa, ⟨o, vs, ho, hov⟩, ha1⟩ kb
    exact h sb ma _ Ra rowsa (Ia.iter T ho hov f2 kb) (by omega) (kb.keep _ _ (ni n12) ha1)

theorem law_loops {Q : Flow → Shared → Prop} (T : Top0 w s₀.heap) (r : Room A (n + 9)) (hfr : A.frames = some [lawEnv L fa cd]) (I : LawI w s₀ L a d R LR IRows rows tn m B s) (hl : rows.length ≤ 40)
    (h : ∀ s' m', Kp [] s₀ s' → s'.heap.Ns L m' → Q (.ret (.bool true)) s') : wpAny (model prog w) A (execs ((bodyOfS (topSt 25)).drop 16) (lawEnv L fa cd)) Q E s := by
  have hsl : (100000 : Nat) ≤ sizeLine := by rw [sizeLine_eq]; decide
  -- behind the loops
  have fin : ∀ s' m' B' R' rows', LawI w s₀ L a d R' LR IRows rows' tn m' B' s' → wpAny (model prog w) A (execs ((bodyOfS (topSt 25)).drop 17) (lawEnv L fa cd)) Q E s' := by
    intro s₁ m₁ B₁ R₁ rows₁ I₁
    obtain ⟨ma, md, mit, mn, mM, tM, rM⟩ := I₁.C.made
    obtain ⟨ll, lvs, mL, lL, rL⟩ := I₁.C.listed
    obtain ⟨hl, hvs, mH, lH, rH⟩ := I₁.C.handed
    obtain ⟨il, ivs, mI, lI, rI⟩ := I₁.C.inner
    have hsz := I₁.C.sz
    have hmi : mit.size = LR.length := by simpa using rM.length
    have T₁ := I₁.TB.keeps I₁.eB
    have e₁ := I₁.eB
    refine wpAny_execs_cons (wpAny_Return_some (PyProof.Rows.BoolOp_and (wpAny_Compare1 (ev_plain T₁ (n := n + 1) r I₁.ns mM (.inl ⟨md, mn, tM.keeps e₁⟩) (RowsR.tags (rM.keeps e₁)) (by omega) fun s₂ P ys k₂ fP lP rP => nm_l (k₂.ns0 I₁.ns) mL (rowsEqL r lP (lL.keeps (ext_tr e₁ k₂.ext)) rP (rL.keeps (ext_tr e₁ k₂.ext)) (wpAny_truthy_bool ?_))))))
    have e₂ := ext_tr e₁ k₂.ext
    have n₂ := k₂.ns0 I₁.ns
    rw [if_pos (by simp)]
    refine PyProof.Rows.BoolOp_one (wpAny_Compare1 (nm_l n₂ mH (nm_l n₂ mI (rowsEqL r (lH.keeps e₂) (lI.keeps e₂) (rH.keeps e₂) (rI.keeps e₂) ?_))))
    have := h s₂ m₁ (I₁.kp.then k₂) n₂
    simpa using this
  have T₁ := I.TB.keeps I.eB
  refine wpAny_execs_cons (wpAny_For (Call_Name rfl (nm_b T₁ (g_range w) PyProof.Rows.Boot.«range» (PyProof.Rows.callWith_type1 (spliced_more (ev_int fun s₁ u₁ k₁ => spliced_none ?_))))))
  refine range_iter1 (n := 4) (by decide) fun s₂ I1 k₂ hI1 hit => ?_
  have k02 := k₁.then k₂
  have I₂ := I.step k02
  have hIL : L ≠ I1 := Ne.symm (Ns.ne (k₁.ns0 I.ns) hI1)
  have f1 : s₀.heap.get? I1 = none := (I.kp.then k₁).fresh hI1
  refine for_loop (Walks.range r.hd I1 0 1 4) (J1 w s₀ L a d LR IRows tn I1) (ni hIL) (by simpa using hit) ⟨m, B, R, rows, I₂, by omega, _, _, hit, rfl⟩ ?_ ?_ ?_
  · rintro i s' ⟨m', _, _, _, I', _⟩; exact ⟨m', I'.ns⟩
  · rintro i v sa sb E' hi ⟨tv, rfl⟩ ⟨ma, Ba, Ra, rowsa, Ia, hla, o, vs, ho, hov⟩ kb hstore hst
    have nb := hstore ma Ia.ns
    have Ib := Ia.iterN T ho hov f1 kb nb (by decide) (by decide) (by decide) (by decide) (by decide) (by decide) (by decide)
    have mkb : (fun z => if z = ("k" : Str) then some (Value.int (0 + (i : Int) * 1) tv) else ma z) "k" = some (Value.int (0 + (i : Int) * 1) tv) := if_pos rfl
    generalize (fun z => if z = ("k" : Str) then some (Value.int (0 + (i : Int) * 1) tv) else ma z) = mb at nb Ib mkb
    have Tb := Ib.TB.keeps Ib.eB
    obtain ⟨tt, mt⟩ := Ib.turn
    have hst0 : sb.heap.get? I1 = _ := hst
    -- word = _law_words()[(k + turn) % 4]
    refine wpAny_execs_cons (asg (Subscript_ (Call_Name rfl (nm_g Tb (g_words w) (callWith_K0 Tb.K (k_k396 w) (words_call (n := n + 7) Tb r fun sc D t₁ t₂ t₃ t₄ kc hD => ?_))))))
    refine wpAny_BinOp (wpAny_BinOp (nm_l (kc.ns0 nb) mkb (nm_l (kc.ns0 nb) mt (add_i fun sd ud kd => ev_int fun se ue ke => mod_i (by decide) fun sf uf kf => ?_))))
    have kbf := ((kc.then kd).then ke).then kf
    obtain ⟨j, hj, hjl⟩ := fmod_nat (0 + (i : Int) * 1 + (tn : Int)) 4 (by decide)
    have hj' : (0 + (i : Int) * 1 + (tn : Int)).fmod 4 = (j : Int) := hj
    rw [hj']
    obtain ⟨word, tw, hw, hok⟩ : ∃ word tw, [Value.str "n" t₁, .str "m" t₂, .str "" t₃, .str "nn" t₄][j]? = some (.str word tw) ∧ okR (nmr word) := by
      match j, hjl with
      | 0, _ => exact ⟨_, _, rfl, by unfold okR; decide +kernel⟩
      | 1, _ => exact ⟨_, _, rfl, by unfold okR; decide +kernel⟩
      | 2, _ => exact ⟨_, _, rfl, by unfold okR; decide +kernel⟩
      | 3, _ => exact ⟨_, _, rfl, by unfold okR; decide +kernel⟩
    have lD : Ls sc.heap D [Value.str "n" t₁, .str "m" t₂, .str "" t₃, .str "nn" t₄] := ⟨0, hD⟩
    refine ls_at (lD.keeps ((kd.then ke).then kf).ext) (by simp; omega) hw ⟨mb, kbf.ns0 nb, fun sg kg ng => ?_⟩
    have If := Ib.step kbf
    have Ig := If.name kg ng (by decide) (by decide) (by decide) (by decide) (by decide) (by decide) (by decide)
    have fkg : FK sb sg := (Kp.fk kbf).trans (If.fk kg (fun b hb => by rw [List.mem_singleton.mp hb]; exact .inl rfl))
    have hg1 : sg.heap.get? I1 = _ := fkg _ _ _ rfl hst0
    refine wpAny_execs_cons (law_again (n := n) (N := 40 + 12 * i) T r hfr Ig (by omega) (by omega) (if_pos rfl) hok hg1 rfl fun s' m' B' R' rows' I' hl' h1' => wpAny_execs_nil ⟨h1', m', B', R', rows', I', by omega, _, _, h1', rfl⟩)
  · rintro sa sb ⟨ma, Ba, Ra, rowsa, Ia, hla, o, vs, ho, hov⟩ kb
    exact fin sb ma _ Ra rowsa (Ia.iter T ho hov f1 kb)
end
end Mine

namespace Mine
theorem room_law (env : Env) : Room (callerA.deeper env) 20 := ⟨rfl, by show callerA.depth + 1 + 3 * 20 < recursionLimit; decide, by show callerA.units + 3 + 20 * 20 + 64 < cLine; decide⟩
section
variable {prog : Program} {w : World} {A : Around} {E : Value → Shared → Prop} {s : Shared} {s₀ : Shared} {L fa : Addr} {cd : Value}
theorem law_all {vs : List Value} {ns : List Int} {l : Addr} {m : Str → Option Value} {Q : Flow → Shared → Prop} (T : Top0 w s₀.heap) (r : Room A 20) (hfr : A.frames = some [lawEnv L fa cd]) (hL : s₀.heap.get? L = none) (k : Kp [] s₀ s) (hn : s.heap.Ns L m) (ms : m "script" = some (.ref l)) (hl : s₀.heap.IsList l vs.toArray) (hi : IntsAre vs ns) (hlen : ns.length ≤ 63)
    (h : ∀ s' m', Kp [] s₀ s' → s'.heap.Ns L m' → Q (.ret (.bool true)) s') : wpAny (model prog w) A (execs (bodyOfS (topSt 25)) (lawEnv L fa cd)) Q E s := by
  refine law_A (n := 14) T r hL k hn ms hl hi hlen fun s₁ nl il nvs ivs nums inner first c nm m₁ D => ?_
  refine law_mix (n := 14) T r hL D fun s₂ m₂ B mx mvs mrows k₂ n₂ N₂ mm₂ eB eB₂ bL bX lx tx hml => ?_
  have nIL : Ls (hideAll s₁.heap [L]) il ivs := D.il.hide D.ns
  refine law_B (n := 12) T r hL k₂ n₂ N₂ mm₂ eB₂ bL lx tx hml (nIL.keeps eB) ((D.ir.hide D.ns).keeps eB) D.ilen D.nm3 fun s₃ m₃ B₃ rl hl rvs at_ k₃ n₃ e₃ b₃ D₃ => ?_
  refine law_C (n := 12) T r hL k₃ n₃ e₃ b₃ D₃ fun s₄ m₄ B₄ k₄ n₄ e₄ b₄ D₄ C₄ => ?_
  refine law_T (n := 12) T r hL k₄ n₄ e₄ b₄ D₄ C₄ fun s₅ m₅ B₅ a d R rows tn I₅ hr => ?_
  exact law_loops (n := 11) T r hfr I₅ hr h
end
end Mine

set_option maxHeartbeats 8000000 in
theorem PySem.Challenge.cw_ep5008_01_holds : PySem.Challenge.rw_ep5008_01.Holds := by
  refine Mine.hd ?_
  k_go0
  rename Fr _ _ _ _ => F
  rename Top _ _ _ _ _ _ => T
  rename IntsAre _ _ => hI
  rename Frag.In _ _ => KX
  rename Heap.IsList _ _ _ => hL
  rename ¬ _ < _ => hlen
  rename Below _ _ _ _ => K0
  rename _ = #[] => hgens
  have T0 : Mine.Top0 _ _ := ⟨KX, ⟨_, T.g, fun x v e => mg_of KX T.g e, fun x e => mg_none_of KX T.g e⟩, ⟨_, T.b, fun x v hn hv => (T.builtins x hn).trans hv⟩, T.nolimit, ⟨_, _, own_of_in KX (topRead_of T) (Mine.g_nf _) (Mine.nf_exc _)⟩, ⟨_, _, own_of_in KX (topRead_of T) (Mine.g_ds _) (Mine.ds_exc _)⟩⟩
  refine wpAny_mono (Mine.law_all (E := fun _ _ => False) T0 (Mine.room_law _) rfl Mine.fresh_size (Mine.Kp.of F.keep) F.ns rfl hL hI (by omega) (Q := fun f s' => f = .ret (.bool true) ∧ ∃ m', s'.heap.Ns _ m' ∧ Mine.Kp [] _ s') (fun s' m' k n => ⟨rfl, m', n, k⟩)) (fun f s' hk => ?_) fun e s' he => he.elim
  · obtain ⟨rfl, m', n', k'⟩ := hk
    exact goodW_bool ⟨n', k'.ext, Nat.le_refl _⟩ (k'.gens.trans hgens) (raisesW_false (by intro ct hct; cases hct)) (postW_of (by rfl) (w_eq_bool (w_res rfl) w_lit) (by rfl)) k'.os
