import PyProof.Rows.All
import Wide.All
import OpenK.AllK
import Wide.FinOn
import PySem.Challenge.RW_ph0096_01
set_option Elab.async false
set_option maxRecDepth 100000
set_option linter.unusedVariables false
set_option rowWalk.seconds 0

section
open PySem PySem.W PyProof.Rows
namespace Mine
set_option maxHeartbeats 8000000
open_top hd for PySem.Challenge.rw_ph0096_01
end Mine
end

theorem Mine.topOff : True := by
  w_top off
  exact trivial

section
open PySem PySem.W PyProof.Rows PySem.Calls PySem.Spec
namespace Mine
/-! order of texts -/
def ltS (x y : Str) : Prop := x.cps.toList < y.cps.toList
theorem ltS_trans {x y z : Str} (h : ltS x y) (k : ltS y z) : ltS x z := List.lt_trans h k
theorem ltS_irrefl (x : Str) : ¬ ltS x x := List.lt_irrefl _
theorem ltS_of_lt_of_not {x y z : Str} (h : ltS x y) (k : ¬ ltS z y) : ltS x z :=
  Classical.byContradiction fun q => k (List.lt_of_le_of_lt (List.not_lt.mp q) h)
theorem ltS_of_not_of_lt {x y z : Str} (h : ¬ ltS y x) (k : ltS y z) : ltS x z := List.lt_of_le_of_lt (List.not_lt.mp h) k
theorem nlt_trans {x y z : Str} (h : ¬ ltS y x) (k : ¬ ltS z y) : ¬ ltS z x := fun q => k (ltS_of_lt_of_not q h)
theorem ltS_tri {x y : Str} (h : ¬ ltS x y) (k : ¬ ltS y x) : x = y := by
  have e : x.cps.toList = y.cps.toList := List.le_antisymm (List.not_lt.mp k) (List.not_lt.mp h)
  cases x; cases y; simp only at e; congr; exact Array.toList_inj.mp e
def Srt (xs : List Str) : Prop := xs.Pairwise (fun a b => ¬ b.cps.toList < a.cps.toList)
def cntR (xs : List Str) (x : Str) : Nat := xs.countP (fun y => !decide (x.cps.toList < y.cps.toList))
def cntL (xs : List Str) (x : Str) : Nat := xs.countP (fun y => decide (y.cps.toList < x.cps.toList))
theorem cntR_len {xs : List Str} {x : Str} : cntR xs x ≤ xs.length := List.countP_le_length
theorem cntL_len {xs : List Str} {x : Str} : cntL xs x ≤ xs.length := List.countP_le_length
theorem srt_get {xs : List Str} (hs : Srt xs) {i j : Nat} {y z : Str} (hi : xs[i]? = some y) (hj : xs[j]? = some z) (h : i ≤ j) : ¬ ltS z y := by
  rcases Nat.lt_or_eq_of_le h with h | h
  · obtain ⟨hi', rfl⟩ := List.getElem?_eq_some_iff.mp hi
    obtain ⟨hj', rfl⟩ := List.getElem?_eq_some_iff.mp hj
    exact List.pairwise_iff_getElem.mp hs i j hi' hj' h
  · subst h
    rw [hi] at hj; cases hj; exact ltS_irrefl _
theorem cnt_upper {xs : List Str} {p : Str → Bool} {i : Nat} (h : ∀ j z, i ≤ j → xs[j]? = some z → p z = false) : xs.countP p ≤ i := by
  have e : xs.countP p = (xs.take i).countP p + (xs.drop i).countP p := by rw [← List.countP_append, List.take_append_drop]
  have z : (xs.drop i).countP p = 0 := by
    rw [List.countP_eq_zero]
    intro a ha
    obtain ⟨k, hk, rfl⟩ := List.mem_iff_getElem.mp ha
    rw [h (i + k) _ (Nat.le_add_right _ _) (by rw [← List.getElem?_drop]; exact List.getElem?_eq_getElem hk)]
    exact Bool.false_ne_true
  have := List.countP_le_length (p := p) (l := xs.take i)
  rw [List.length_take] at this
  omega
theorem cnt_lower {xs : List Str} {p : Str → Bool} {i : Nat} (hi : i < xs.length) (h : ∀ j z, j ≤ i → xs[j]? = some z → p z = true) : i + 1 ≤ xs.countP p := by
  have e : xs.countP p = (xs.take (i + 1)).countP p + (xs.drop (i + 1)).countP p := by rw [← List.countP_append, List.take_append_drop]
  have z : (xs.take (i + 1)).countP p = (xs.take (i + 1)).length := by
    rw [List.countP_eq_length]
    intro a ha
    obtain ⟨k, hk, rfl⟩ := List.mem_iff_getElem.mp ha
    have hk' : k < i + 1 := by rw [List.length_take] at hk; omega
    exact h k _ (by omega) (by rw [List.getElem_take]; exact List.getElem?_eq_getElem _)
  rw [List.length_take] at z
  omega
theorem cntR_le {xs : List Str} {x y : Str} {i : Nat} (hs : Srt xs) (h : xs[i]? = some y) (hlt : x.cps.toList < y.cps.toList) : cntR xs x ≤ i :=
  cnt_upper fun j z hj hz => by
    have : ltS x z := ltS_of_lt_of_not hlt (srt_get hs h hz hj)
    simp only [Bool.not_eq_false', decide_eq_true_eq]; exact this
theorem lt_cntR {xs : List Str} {x y : Str} {i : Nat} (hs : Srt xs) (h : xs[i]? = some y) (hlt : ¬ x.cps.toList < y.cps.toList) : i + 1 ≤ cntR xs x :=
  cnt_lower (List.getElem?_eq_some_iff.mp h).1 fun j z hj hz => by
    have : ¬ ltS x z := nlt_trans (srt_get hs hz h hj) hlt
    simp only [Bool.not_eq_true', decide_eq_false_iff_not]; exact this
theorem cntL_le {xs : List Str} {x y : Str} {i : Nat} (hs : Srt xs) (h : xs[i]? = some y) (hlt : ¬ y.cps.toList < x.cps.toList) : cntL xs x ≤ i :=
  cnt_upper fun j z hj hz => by
    have : ¬ ltS z x := nlt_trans hlt (srt_get hs h hz hj)
    simp only [decide_eq_false_iff_not]; exact this
theorem lt_cntL {xs : List Str} {x y : Str} {i : Nat} (hs : Srt xs) (h : xs[i]? = some y) (hlt : y.cps.toList < x.cps.toList) : i + 1 ≤ cntL xs x :=
  cnt_lower (List.getElem?_eq_some_iff.mp h).1 fun j z hj hz => by
    have : ltS z x := ltS_of_not_of_lt (srt_get hs hz h hj) hlt
    simp only [decide_eq_true_eq]; exact this
/-- a text laid into a row -/
def insAt (xs : List Str) (r : Nat) (x : Str) : List Str := xs.take r ++ x :: xs.drop r
theorem insAt_perm (xs : List Str) (r : Nat) (x : Str) : (insAt xs r x).Perm (x :: xs) := by
  unfold insAt
  exact List.perm_middle.trans (by rw [List.take_append_drop])
theorem insAt_srt {xs : List Str} {r : Nat} {x : Str} (hs : Srt xs) (h1 : ∀ j z, j < r → xs[j]? = some z → ¬ ltS x z) (h2 : ∀ j z, r ≤ j → xs[j]? = some z → ¬ ltS z x) : Srt (insAt xs r x) := by
  unfold insAt Srt
  rw [List.pairwise_append]
  have ht : ∀ a ∈ xs.take r, ¬ ltS x a := fun a ha => by
    obtain ⟨k, hk, rfl⟩ := List.mem_iff_getElem.mp ha
    have hk' : k < r := by rw [List.length_take] at hk; omega
    exact h1 k _ hk' (by rw [List.getElem_take]; exact List.getElem?_eq_getElem _)
  have hd : ∀ a ∈ xs.drop r, ¬ ltS a x := fun a ha => by
    obtain ⟨k, hk, rfl⟩ := List.mem_iff_getElem.mp ha
    exact h2 (r + k) _ (Nat.le_add_right _ _) (by rw [← List.getElem?_drop]; exact List.getElem?_eq_getElem hk)
  refine ⟨hs.sublist (List.take_sublist ..), ?_, fun a ha b hb => ?_⟩
  · rw [List.pairwise_cons]
    exact ⟨hd, hs.sublist (List.drop_sublist ..)⟩
  · rcases List.mem_cons.mp hb with rfl | hb
    · exact ht a ha
    · exact nlt_trans (ht a ha) (hd b hb)
theorem insR_srt {xs : List Str} (x : Str) (hs : Srt xs) : Srt (insAt xs (cntR xs x) x) := by
  refine insAt_srt hs (fun j z hj hz h => ?_) fun j z hj hz h => ?_
  · have := cntR_le hs hz h; omega
  · have := lt_cntR hs hz (fun q => ltS_irrefl _ (ltS_trans h q)); omega
theorem insL_srt {xs : List Str} (x : Str) (hs : Srt xs) : Srt (insAt xs (cntL xs x) x) := by
  refine insAt_srt hs (fun j z hj hz h => ?_) fun j z hj hz h => ?_
  · have := cntL_le hs hz (fun q => ltS_irrefl _ (ltS_trans h q)); omega
  · have := lt_cntL hs hz h; omega
end Mine
end

section
open PySem PySem.W PyProof.Rows PyProof.V PySem.Calls PySem.Spec
namespace Mine
def OkS (xs : List Str) : Prop := ∀ x ∈ xs, PyData.strOk x = true
theorem laySs : ∀ xs : List Str, OkS xs → PyData.canLayAll0 (xs.map PyData.str) = true
  | [], _ => rfl
  | _ :: r, h => by simp [PyData.canLayAll0, PyData.canLay0, laySs r fun x hx => h x (.tail _ hx), h _ (.head _)]
theorem depSs : ∀ xs : List Str, PyData.depthAll (xs.map PyData.str) = 0
  | [] => rfl
  | _ :: r => by simp [PyData.depthAll, PyData.depth, depSs r]
theorem shapedSs {xs : List Str} (h : OkS xs) : SeqAt.shaped (.list (xs.map PyData.str)) = true := by
  simp [SeqAt.shaped, PyData.canLay0, PyData.depth, laySs _ h, depSs]
theorem sameSs : ∀ ns ms : List Str, PySem.Spec.sameAll (ns.map PyData.str) (ms.map PyData.str) = decide (ns = ms)
  | [], [] => by simp [PySem.Spec.sameAll]
  | [], _ :: _ => by simp [PySem.Spec.sameAll]
  | _ :: _, [] => by simp [PySem.Spec.sameAll]
  | a :: r, b :: t => by
    simp only [List.map_cons, PySem.Spec.sameAll, PySem.Spec.same, sameSs r t]
    by_cases h : a = b <;> by_cases h' : r = t <;> simp [h, h']
theorem sameS (ns ms : List Str) : PySem.Spec.same (.list (ns.map PyData.str)) (.list (ms.map PyData.str)) = decide (ns = ms) := by
  simp only [PySem.Spec.same]; exact sameSs ns ms
section
variable {prog : Program} {w : World} {A : Around} {E : Value → Shared → Prop} {s : Shared} {a b : Addr} {xs ys : List Value} {ns ms : List Str} {Q : Value → Shared → Prop}
theorem eq_strs (ha : s.heap.IsList a xs.toArray) (hb : s.heap.IsList b ys.toArray) (hi : StrsAre xs ns) (hj : StrsAre ys ms) (oi : OkS ns) (oj : OkS ms) (hu : A.units + 64 < cLine) (h : Q (.bool (decide (ns = ms))) s) :
    wpAny (model prog w) A (compareOp .Eq (.ref a) (.ref b)) Q E s :=
  eq_dataH_same (reads_newData ha (StrsAre.carried hi)) (reads_newData hb (StrsAre.carried hj)) (shapedSs oi) (shapedSs oj) hu (SeqAt.noMix_of_shape (.list .str) rfl _ _ (list_map_has fun _ => rfl) (list_map_has fun _ => rfl)) (by rw [sameS]; exact h)
theorem ne_strs (ha : s.heap.IsList a xs.toArray) (hb : s.heap.IsList b ys.toArray) (hi : StrsAre xs ns) (hj : StrsAre ys ms) (oi : OkS ns) (oj : OkS ms) (hu : A.units + 64 < cLine) (h : Q (.bool (!decide (ns = ms))) s) :
    wpAny (model prog w) A (compareOp .NotEq (.ref a) (.ref b)) Q E s :=
  ne_dataH_same (reads_newData ha (StrsAre.carried hi)) (reads_newData hb (StrsAre.carried hj)) (shapedSs oi) (shapedSs oj) hu (SeqAt.noMix_of_shape (.list .str) rfl _ _ (list_map_has fun _ => rfl) (list_map_has fun _ => rfl)) (by rw [sameS]; exact h)
end
end Mine
end

section
open PySem PySem.W PyProof.Rows PySem.Calls PySem.Spec
namespace Mine
theorem slot_filter_next : Slot "filter" "__next__" "filter.__next__" :=
  .of (owner := "filter") (n := "__next__") (by rw [typeLookup_type, builtinLookup_eq_fast]; kernel_rfl) (by decide +kernel) (by decide +kernel) (by decide +kernel)
    (by first | exact .inl (by decide +kernel) | exact .inr (by decide +kernel)) (by rw [isSubtype_type]; kernel_rfl)
theorem slot_filter_iter : Slot "filter" "__iter__" "filter.__iter__" :=
  .of (owner := "filter") (n := "__iter__") (by rw [typeLookup_type, builtinLookup_eq_fast]; kernel_rfl) (by decide +kernel) (by decide +kernel) (by decide +kernel)
    (by first | exact .inl (by decide +kernel) | exact .inr (by decide +kernel)) (by rw [isSubtype_type]; kernel_rfl)
theorem entry_filter_next : entryFor table "filter.__next__" = some Builtin.«filter.__next__» := entryFor_of_tree (by kernel_rfl)
theorem entry_filter_iter : entryFor table "filter.__iter__" = some Builtin.«dict_keyiterator.__iter__» :=
  entryFor_alias (id' := "dict_keyiterator.__iter__") (by kernel_rfl) rfl (by decide +kernel) (by kernel_rfl)
theorem args_filter_next (a : Value) : argsOk "filter.__next__" ⟨[a], []⟩ := by unfold argsOk; kernel_rfl
theorem args_filter_iter (a : Value) : argsOk "filter.__iter__" ⟨[a], []⟩ := by unfold argsOk; kernel_rfl
theorem entry_filter_new : entryFor table "filter.__new__" = some Builtin.«filter.__new__» := entryFor_of_tree (by kernel_rfl)
abbrev IsFilter (h : Heap) (I it : Addr) : Prop := h.get? I = some { cls := .type "filter", dict := none, data := .fields #[.builtin "len", .ref it], slots := #[] }
section
variable {prog : Program} {w : World} {A : Around} {E : Value → Shared → Prop} {s : Shared}
theorem tupnext_item {it t : Addr} {i : Nat} {items : Array Value} {x : Value} {Q : Option Value → Shared → Prop} (hit : s.heap.IsTupleIter it t i)
    (ht : s.heap.IsTuple t items) (hx : items[i]? = some x)
    (hQ : ∀ h', h'.IsTupleIter it t (i + 1) → Heap.SameBut it s.heap h' → Q (some x) { s with heap := h' }) :
    wpAny (model prog w) A (callSpecial? (.ref it) "__next__") Q E s := by
  obtain ⟨o, ho, hc, hd⟩ := id hit
  obtain ⟨ol, hol, _, nl, hdl⟩ := ht
  refine wpAny_callSpecial?_slot (name := Str.ofString "__next__") hit.typeIs F.slot_tuple_iterator_next
    (wpAny_call_entry F.slot_tuple_iterator_next hit.typeIs F.entry_tuple_iterator_next ?_ (F.args_tuple_iterator_next_1 _))
  show wpAny _ _ (field (.ref it) 0 >>= _) _ _ s
  refine wpAny_bind (wpAny_field ho hd (x := .ref t) rfl ?_)
  show wpAny _ _ (if (Value.ref t == Value.none) = true then _ else _) _ _ s
  rw [if_neg (show ¬ ((Value.ref t == Value.none) = true) from Bool.false_ne_true)]
  show wpAny _ _ (field (.ref it) 1 >>= _) _ _ s
  refine wpAny_bind (wpAny_field ho hd (x := .int i 0) rfl ?_)
  show wpAny _ _ (seqItems? (.ref t) >>= _) _ _ s
  refine wpAny_bind (wpAny_seqItems hol hdl ?_)
  simp only [Int.toNat_natCast, hx]
  refine wpAny_bind (wpAny_setField ho hd (by simp) (wpAny_pure ⟨x, rfl, hQ _ ?_ (Heap.SameBut.update ..)⟩))
  exact ⟨_, Heap.get?_update_self _ ho (Obj.isFreed_of_fields (Obj.data_mapFields hd _)), (Obj.cls_mapFields ..).trans hc, by
    rw [Obj.data_mapFields hd]; simp [rawInt]⟩
theorem tupnext_end {it t : Addr} {i : Nat} {items : Array Value} {Q : Option Value → Shared → Prop} (hh : A.handled = none)
    (hit : s.heap.IsTupleIter it t i) (ht : s.heap.IsTuple t items) (hx : items[i]? = none)
    (hE : ∀ h' e, Heap.ExtBut it s.heap h' → (∃ o, h'.get? e = some o ∧ o.cls = .type "StopIteration") → E (.ref e) { s with heap := h' }) : wpAny (model prog w) A (callSpecial? (.ref it) "__next__") Q E s := by
  obtain ⟨o, ho, hc, hd⟩ := id hit
  obtain ⟨ol, hol, _, nl, hdl⟩ := ht
  refine wpAny_callSpecial?_slot (name := Str.ofString "__next__") hit.typeIs F.slot_tuple_iterator_next
    (wpAny_call_entry F.slot_tuple_iterator_next hit.typeIs F.entry_tuple_iterator_next ?_ (F.args_tuple_iterator_next_1 _))
  show wpAny _ _ (field (.ref it) 0 >>= _) _ _ s
  refine wpAny_bind (wpAny_field ho hd (x := .ref t) rfl ?_)
  show wpAny _ _ (if (Value.ref t == Value.none) = true then _ else _) _ _ s
  rw [if_neg (show ¬ ((Value.ref t == Value.none) = true) from Bool.false_ne_true)]
  show wpAny _ _ (field (.ref it) 1 >>= _) _ _ s
  refine wpAny_bind (wpAny_field ho hd (x := .int i 0) rfl ?_)
  show wpAny _ _ (seqItems? (.ref t) >>= _) _ _ s
  refine wpAny_bind (wpAny_seqItems hol hdl ?_)
  simp only [Int.toNat_natCast, hx]
  refine wpAny_bind (wpAny_rule (wpAny_bind (wpAny_setField ho hd (by simp) ?_)))
  show wpAny _ _ (newExc (.type "StopIteration") [] >>= _) _ _ _
  refine wpAny_bind ?_
  simp only [newExc, newTuple]
  refine wpAny_bind (wpAny_newObj_type ?_ (by size_fits))
  refine wpAny_bind (m := firstArgMember _ _) (wpAny_of_eq (a := Value.none) (by first | rfl | (simp only [firstArgMember]; rfl)) ?_)
  refine wpAny_newObj_type ?_ (by size_fits)
  simp only [raiseNew]
  refine wpAny_bind (wpAny_handled ?_)
  first | rw [show A.in1.handled = none from hh] | rw [hh]
  refine wpAny_bind (wpAny_pure (wpAny_throw ?_))
  exact hE _ _ (((Heap.SameBut.update ..).extBut.push _).push _) ⟨_, Heap.get?_push_size _ rfl, rfl⟩
theorem filt_next {I it T : Addr} {items : List Value} {xs : List Str} {R : Result → Shared → Prop} (hh : A.handled = none) (hI : I ≠ it) (hT : T ≠ it) (hx : StrsAre items xs) (hsz : ∀ x ∈ xs, x.length ≤ 1000) :
    ∀ (k j : Nat) (s : Shared), items.length = j + k → IsFilter s.heap I it → s.heap.IsTupleIter it T j → s.heap.IsTuple T items.toArray →
    (∀ j' y t h' tk, j ≤ j' → (∀ i z, j ≤ i → i < j' → xs[i]? = some z → z.length = 0) → xs[j']? = some y → y.length ≠ 0 → h'.IsTupleIter it T (j' + 1) → Heap.ExtBut it s.heap h' → R (.ok (.ret (.str y t))) { s with heap := h', toks := tk }) →
    (∀ h' e tk, (∀ i z, j ≤ i → xs[i]? = some z → z.length = 0) → Heap.ExtBut it s.heap h' → (∃ o, h'.get? e = some o ∧ o.cls = .type "StopIteration") → R (.error (.ref e)) { s with heap := h', toks := tk }) →
    codeAny (model prog w) A (.builtin "filter.__next__" ⟨[.ref I], []⟩) R s := by
  intro k
  induction k with
  | zero =>
    intro j s hlen hF hit ht h1 h2
    refine codeAny_builtin entry_filter_next ?_
    rw [Around.under_plainId (by decide +kernel)]
    show wpAny _ _ (field (.ref I) 0 >>= _) _ _ s
    refine wpAny_bind (wpAny_field hF rfl (x := .builtin "len") rfl ?_)
    show wpAny _ _ (field (.ref I) 1 >>= _) _ _ s
    refine wpAny_bind (wpAny_field hF rfl (x := .ref it) rfl ?_)
    refine wpAny_bind (tupnext_end (A := A.in1) hh hit ht (by simp; omega) fun h' e hb he => ?_)
    exact h2 h' e s.toks (fun i z hi hz => absurd (List.getElem?_eq_some_iff.mp hz).1 (by have := StrsAre.length hx; omega)) hb he
  | succ k ih =>
    intro j s hlen hF hit ht h1 h2
    have hj : j < xs.length := by have := StrsAre.length hx; omega
    obtain ⟨t, hv⟩ := StrsAre.get hx j xs[j] (List.getElem?_eq_getElem hj)
    refine codeAny_builtin entry_filter_next ?_
    rw [Around.under_plainId (by decide +kernel)]
    show wpAny _ _ (field (.ref I) 0 >>= _) _ _ s
    refine wpAny_bind (wpAny_field hF rfl (x := .builtin "len") rfl ?_)
    show wpAny _ _ (field (.ref I) 1 >>= _) _ _ s
    refine wpAny_bind (wpAny_field hF rfl (x := .ref it) rfl ?_)
    refine wpAny_bind (tupnext_item (x := .str xs[j] t) hit ht (by simpa using hv) fun h' hit' hs' => ?_)
    refine wpAny_bind (wpAny_holding ?_)
    show wpAny _ _ (call (Value.builtin "len") [.str xs[j] t] >>= _) _ _ _
    have hx1 : xs[j].length ≤ 1000 := hsz _ (List.getElem_mem hj)
    refine wpAny_bind (PyProof.Rows.len_str (by omega) ?_)
    refine wpAny_holding (PyProof.Rows.truthy_int ?_)
    by_cases h0 : xs[j].length = 0
    · have e : ((xs[j].length : Int) != 0) = false := by simp [h0]
      rw [e]
      refine wpAny_pure ⟨Code.quiet_builtin _ (by decide +kernel), ?_⟩
      refine ih (j + 1) _ (by omega) ((hs'.2 I hI).trans hF) hit' (ht.extBut hs'.extBut hT) (fun j' y t' h₂ tk hjj hz hy hy0 hi2 hb => ?_) fun h₂ e tk hz hb he => ?_
      · refine h1 j' y t' h₂ tk (by omega) (fun i z hi1 hi2 hz' => ?_) hy hy0 hi2 (fun b o hbi hbo => hb b o hbi (hs'.extBut b o hbi hbo))
        rcases Nat.lt_or_eq_of_le hi1 with q | q
        · exact hz i z q hi2 hz'
        · subst q; rw [List.getElem?_eq_getElem hj] at hz'; cases hz'; exact h0
      · refine h2 h₂ e tk (fun i z hi1 hz' => ?_) (fun b o hbi hbo => hb b o hbi (hs'.extBut b o hbi hbo)) he
        rcases Nat.lt_or_eq_of_le hi1 with q | q
        · exact hz i z q hz'
        · subst q; rw [List.getElem?_eq_getElem hj] at hz'; cases hz'; exact h0
    · have e : ((xs[j].length : Int) != 0) = true := by simp; omega
      rw [e]
      exact wpAny_pure (h1 j xs[j] t h' _ (Nat.le_refl _) (fun i z a b => by omega) (List.getElem?_eq_getElem hj) h0 hit' hs'.extBut)
end
/-! which texts a filter by len hands on -/
def ne0 (x : Str) : Bool := decide (x.length ≠ 0)
theorem filter_take_step {xs : List Str} {j j' : Nat} (h : j ≤ j') (hz : ∀ i z, j ≤ i → i < j' → xs[i]? = some z → z.length = 0) : (xs.take j').filter ne0 = (xs.take j).filter ne0 := by
  induction j' with
  | zero => have : j = 0 := by omega
            subst this; rfl
  | succ m ih =>
    rcases Nat.lt_or_eq_of_le h with q | q
    · have e := ih (by omega) fun i z h1 h2 => hz i z h1 (by omega)
      rw [← e]
      rw [List.take_add_one]
      cases hm : xs[m]? with
      | none => simp
      | some z => have := hz m z (by omega) (by omega) hm; simp [List.filter_append, ne0, this]
    · rw [q]
theorem filter_at {xs : List Str} {j : Nat} {y : Str} (hy : xs[j]? = some y) (h0 : y.length ≠ 0) : (xs.filter ne0)[((xs.take j).filter ne0).length]? = some y ∧ ((xs.take (j + 1)).filter ne0).length = ((xs.take j).filter ne0).length + 1 := by
  obtain ⟨hj, rfl⟩ := List.getElem?_eq_some_iff.mp hy
  have e : xs.filter ne0 = (xs.take j).filter ne0 ++ (xs[j] :: (xs.drop (j + 1)).filter ne0) := by
    conv => lhs; rw [← List.take_append_drop j xs]
    rw [List.filter_append, List.drop_eq_getElem_cons hj, List.filter_cons, if_pos (by simp [ne0, h0])]
  refine ⟨by rw [e, List.getElem?_append_right (Nat.le_refl _)]; simp, ?_⟩
  rw [List.take_add_one, List.getElem?_eq_getElem hj, List.filter_append]
  simp [ne0, h0]
theorem filter_all {xs : List Str} {j : Nat} (hz : ∀ i z, j ≤ i → xs[i]? = some z → z.length = 0) : ((xs.take j).filter ne0).length = (xs.filter ne0).length := by
  by_cases h : j ≤ xs.length
  · have e := filter_take_step (xs := xs) h fun i z h1 _ h3 => hz i z h1 h3
    rw [List.take_length] at e
    rw [e]
  · rw [List.take_of_length_le (by omega)]
def FiltAt (I it T : Addr) (items : List Value) (xs : List Str) (i : Nat) (h : Heap) : Prop :=
  IsFilter h I it ∧ h.IsTuple T items.toArray ∧ ∃ j, j ≤ items.length ∧ h.IsTupleIter it T j ∧ ((xs.take j).filter ne0).length = i
theorem Walks.filt {prog : Program} {w : World} {A : Around} (hh : A.handled = none) {I it T : Addr} {items : List Value} {xs : List Str} (hI : I ≠ it) (hT : T ≠ it) (hx : StrsAre items xs) (hsz : ∀ x ∈ xs, x.length ≤ 1000) :
    Walks prog w A I [I, it, T] [it] (xs.filter ne0).length (fun i v => ∃ y t, v = .str y t ∧ (xs.filter ne0)[i]? = some y) (FiltAt I it T items xs) where
  sub := fun b hb => by simp at hb; simp [hb]
  frame := fun i h h' st hk => by
    obtain ⟨a, ⟨o, ho, hr⟩, j, hj, ⟨o', ho', hr'⟩, e⟩ := st
    exact ⟨hk I (by simp) _ a, ⟨o, hk T (by simp) _ ho, hr⟩, j, hj, ⟨o', hk it (by simp) _ ho', hr'⟩, e⟩
  item := fun i s Q E hi st hQ => by
    obtain ⟨a, ht, j, hj, hit, e⟩ := st
    have hTy : s.TypeIs (.ref I) "filter" := ⟨_, a, rfl⟩
    unfold pyNext
    refine wpAny_bind (wpAny_attempt (wpAny_callSpecial?_slot (name := Str.ofString "__next__") hTy slot_filter_next (wpAny_call (codeAny_call_builtin_code (Code.quiet_builtin _ (by decide +kernel)) (slot_filter_next.check _ _ _ _ _ _ _ _ hTy (args_filter_next _) ?_)))))
    refine filt_next hh hI hT hx hsz (items.length - j) j s (by omega) a hit ht (fun j' y t h' tk hjj hz hy hy0 hit' hb => ?_) fun h' e' tk hz hb he => ?_
    · have e1 := filter_take_step hjj hz
      have e2 := filter_at hy hy0
      rw [e1, e] at e2
      exact wpAny_pure (hQ _ h' tk ⟨y, t, rfl, e2.1⟩ ⟨hb I _ hI a, ht.extBut hb hT, j' + 1, by have := (List.getElem?_eq_some_iff.mp hy).1; have := StrsAre.length hx; omega, hit', e2.2⟩ fun b o hbw hbo => hb b o (by simpa using hbw) hbo)
    · have := filter_all hz
      omega
  done := fun s Q E st hQ => by
    obtain ⟨a, ht, j, hj, hit, e⟩ := st
    have hTy : s.TypeIs (.ref I) "filter" := ⟨_, a, rfl⟩
    unfold pyNext
    refine wpAny_bind (wpAny_attempt (wpAny_callSpecial?_slot (name := Str.ofString "__next__") hTy slot_filter_next (wpAny_call (codeAny_call_builtin_code (Code.quiet_builtin _ (by decide +kernel)) (slot_filter_next.check _ _ _ _ _ _ _ _ hTy (args_filter_next _) ?_)))))
    refine filt_next hh hI hT hx hsz (items.length - j) j s (by omega) a hit ht (fun j' y t h' tk hjj hz hy hy0 hit' hb => ?_) fun h' e' tk hz hb he => ?_
    · have e1 := filter_take_step hjj hz
      have e2 := filter_at hy hy0
      rw [e1, e] at e2
      have := (List.getElem?_eq_some_iff.mp e2.1).1
      omega
    · obtain ⟨o, ho, hc⟩ := he
      refine wpAny_bind (wpAny_isInstance (T := "StopIteration") (b := true) ⟨o, ho, hc⟩ isSubtype_stop ?_)
      exact wpAny_pure (hQ h' tk fun b o hbw hbo => hb b o (by simpa using hbw) hbo)
  self := fun i s Q E st hQ => by
    have hTy : s.TypeIs (.ref I) "filter" := ⟨_, st.1, rfl⟩
    refine wpAny_pyIter_slot hTy slot_filter_iter ?_
    refine wpAny_call_entry slot_filter_iter hTy entry_filter_iter ?_ (args_filter_iter _)
    exact wpAny_pure ⟨_, rfl, "filter", _, hTy, slot_filter_next.lookup, hQ⟩
end Mine
end

section
open PySem PySem.W PyProof.Rows PySem.Calls PySem.Spec
open AutoSeq1 (wpAny_loadPart')
namespace Mine
theorem mro_filter : mroOf (.type "filter") = pure [.type "filter", .type "object"] := by rw [mroOf_type]; kernel_rfl
theorem lookup_filter_new : typeLookup (.type "filter") "__new__" = pure (some (.builtin "filter.__new__")) := by rw [typeLookup_type, builtinLookup_eq_fast]; kernel_rfl
theorem slot_filter_init : Slot "filter" "__init__" "object.__init__" :=
  .of (owner := "object") (n := "__init__") (by rw [typeLookup_type, builtinLookup_eq_fast]; kernel_rfl) (by decide +kernel) (by decide +kernel) (by decide +kernel)
    (by first | exact .inl (by decide +kernel) | exact .inr (by decide +kernel)) (by rw [isSubtype_type]; kernel_rfl)
theorem called_filter : TypeCalled "filter" "filter.__new__" "object.__init__" :=
  ⟨by decide +kernel, by decide +kernel, ⟨_, _, mro_filter⟩, madeBy_type mro_filter lookup_filter_new (by decide +kernel), by decide +kernel, by rw [isSubtype_type]; kernel_rfl, slot_filter_init⟩
theorem typeCall_filter_2 (a b : Value) : checkTypeCall "filter" ⟨[a, b], []⟩ = pure () := by kernel_rfl
theorem newCall_filter_2 (a b : Value) : checkBuiltinCall "filter.__new__" ⟨[.type "filter", a, b], []⟩ = pure () := by kernel_rfl
theorem sub_filter : isSubtype (.type "filter") (.type "filter") = pure true := by rw [isSubtype_type]; kernel_rfl
theorem meets_filter_new (T : Addr) (items : Array Value) (n : Nat) (dct : Option Addr) (sl : Array (Option Value)) :
    Meets (Builtin.«filter.__new__» ⟨[.type "filter", .builtin "len", .ref T], []⟩) (fun _ R s => s.heap.get? T = some { cls := .type "tuple", dict := dct, data := .seq items n, slots := sl } ∧
      R (.ok (.ret (.ref (s.heap.push { cls := .type "tuple_iterator", data := .fields #[.ref T, .int 0 0] }).objs.size)))
        { s with heap := (s.heap.push { cls := .type "tuple_iterator", data := .fields #[.ref T, .int 0 0] }).push { cls := .type "filter", data := .fields #[.builtin "len", .ref s.heap.objs.size] } }) :=
  .of_wp fun prog w A R s h => by
    obtain ⟨hp, g, d, tk, os⟩ := s; obtain ⟨hl, h⟩ := h
    have hsub := sub_filter
    have hL : Heap.IsTuple (Shared.heap ⟨hp, g, d, tk, os⟩) T items := ⟨_, hl, rfl, n, rfl⟩
    wp_walk using wpAny_pyIter_tuple hL
    exact ⟨_, rfl, h⟩
section
variable {prog : Program} {w : World} {A : Around} {E : Value → Shared → Prop} {s : Shared}
theorem call_filter {T : Addr} {items : Array Value} {Q : Value → Shared → Prop} (hL : s.heap.IsTuple T items)
    (h : ∀ h', IsFilter h' (s.heap.objs.size + 1) s.heap.objs.size → h'.IsTupleIter s.heap.objs.size T 0 → h'.objs.size = s.heap.objs.size + 2 →
      (∀ b o, s.heap.get? b = some o → h'.get? b = some o) → Q (.ref (s.heap.objs.size + 1)) { s with heap := h' }) :
    wpAny (model prog w) A (call (.type "filter") [.builtin "len", .ref T]) Q E s := by
  obtain ⟨⟨c, dct, dt, sl⟩, hl, hc, n, hd⟩ := hL
  replace hc : c = .type "tuple" := hc
  replace hd : dt = .seq items n := hd
  subst hc hd
  refine callType_new called_filter (by decide) (typeCall_filter_2 _ _) (newCall_filter_2 _ _) (fun obj => F.args_object_init_3 obj _ _) entry_filter_new
    (meets_filter_new T items n dct sl) ⟨hl, ?_⟩
  have hz : (s.heap.push { cls := .type "tuple_iterator", data := .fields #[.ref T, .int 0 0] }).objs.size = s.heap.objs.size + 1 := Heap.size_push ..
  show _ ∧ _
  rw [hz]
  have he : IsFilter ((s.heap.push { cls := .type "tuple_iterator", data := .fields #[.ref T, .int 0 0] }).push
      { cls := .type "filter", data := .fields #[.builtin "len", .ref s.heap.objs.size] }) (s.heap.objs.size + 1) s.heap.objs.size := by
    have := Heap.get?_push_size (s.heap.push { cls := .type "tuple_iterator", data := .fields #[.ref T, .int 0 0] })
      (o := { cls := .type "filter", data := .fields #[.builtin "len", .ref s.heap.objs.size] }) rfl
    rw [hz] at this; exact this
  refine ⟨⟨_, he, rfl⟩, h _ he ⟨_, Heap.get?_push_of_some _ (Heap.get?_push_size _ rfl), rfl, rfl⟩ (by rw [Heap.size_push, hz]) fun b o x => Heap.get?_push_of_some _ (Heap.get?_push_of_some _ x)⟩
end
end Mine
end

section
open PySem PySem.W PyProof.Rows PySem.Calls PySem.Spec
namespace Mine
open PySem.StrLaws Builtin Builtin.Str
/-! str.replace on lists of signs -/
def repl (y z : List Nat) : Nat → List Nat → List Nat
  | 0, l => l
  | _ + 1, [] => []
  | n + 1, c :: r => if (c :: r).take y.length = y then z ++ repl y z n ((c :: r).drop y.length) else c :: repl y z n r
theorem repl_nil (y z : List Nat) (n : Nat) : repl y z n [] = [] := by cases n <;> rfl
theorem repl_fuel {y z : List Nat} (hy : 1 ≤ y.length) : ∀ (n m : Nat) (l : List Nat), l.length ≤ n → l.length ≤ m → repl y z n l = repl y z m l
  | 0, m, l, h1, _ => by
    have : l = [] := List.eq_nil_of_length_eq_zero (by omega)
    subst this; rw [repl_nil, repl_nil]
  | n + 1, 0, l, _, h2 => by
    have : l = [] := List.eq_nil_of_length_eq_zero (by omega)
    subst this; rw [repl_nil, repl_nil]
  | n + 1, m + 1, [], _, _ => rfl
  | n + 1, m + 1, c :: r, h1, h2 => by
    simp only [List.length_cons] at h1 h2
    rw [repl, repl, repl_fuel hy n m ((c :: r).drop y.length) (by rw [List.length_drop, List.length_cons]; omega) (by rw [List.length_drop, List.length_cons]; omega),
      repl_fuel hy n m r (by omega) (by omega)]
def rep (y z l : List Nat) : List Nat := repl y z l.length l
theorem rep_nil (y z : List Nat) : rep y z [] = [] := rfl
theorem rep_cons {y z : List Nat} (hy : 1 ≤ y.length) (c : Nat) (r : List Nat) : rep y z (c :: r) = if (c :: r).take y.length = y then z ++ rep y z ((c :: r).drop y.length) else c :: rep y z r := by
  unfold rep
  rw [List.length_cons, repl, repl_fuel hy r.length ((c :: r).drop y.length).length _ (by rw [List.length_drop, List.length_cons]; omega) (Nat.le_refl _)]
theorem at_list {x y : Str} {i : Nat} (h : At x y x.length i) : (x.cps.toList.drop i).take y.length = y.cps.toList := by
  have := h.2
  rw [subAt_eq] at this
  exact eq_of_beq this
theorem at_iff {x y : Str} {i : Nat} (hy : 1 ≤ y.length) : At x y x.length i ↔ (x.cps.toList.drop i).take y.length = y.cps.toList := by
  refine ⟨at_list, fun h => ⟨?_, ?_⟩⟩
  · have := congrArg List.length h
    simp only [List.length_take, List.length_drop, Array.length_toList] at this
    have e : y.cps.size = y.length := rfl
    have e' : x.cps.size = x.length := rfl
    omega
  · rw [subAt_eq, h]; exact beq_self_eq_true _
theorem rep_gap {y z l : List Nat} (hy : 1 ≤ y.length) : ∀ (n a : Nat), (∀ k, a ≤ k → k < a + n → ¬ (l.drop k).take y.length = y) → a + n ≤ l.length →
    rep y z (l.drop a) = (l.drop a).take n ++ rep y z (l.drop (a + n))
  | 0, a, _, _ => by simp
  | n + 1, a, h, hl => by
    have ha : a < l.length := by omega
    rw [List.drop_eq_getElem_cons ha, rep_cons hy, ← List.drop_eq_getElem_cons ha, if_neg (h a (Nat.le_refl _) (by omega)),
      rep_gap hy n (a + 1) (fun k h1 h2 => h k (by omega) (by omega)) (by omega), List.drop_eq_getElem_cons ha, List.take_succ_cons]
    have e : a + 1 + n = a + (n + 1) := by omega
    rw [e, List.cons_append]
theorem rep_none {y z l : List Nat} (hy : 1 ≤ y.length) (a : Nat) (h : ∀ k, a ≤ k → ¬ (l.drop k).take y.length = y) : rep y z (l.drop a) = l.drop a := by
  by_cases ha : a ≤ l.length
  · rw [rep_gap hy (l.length - a) a (fun k h1 _ => h k h1) (by omega)]
    have e : a + (l.length - a) = l.length := by omega
    rw [e, List.drop_length, rep_nil, List.append_nil, List.take_of_length_le (by rw [List.length_drop]; omega)]
  · rw [List.drop_of_length_le (by omega), rep_nil]
theorem rep_parts {x y z : Str} (hy : 1 ≤ y.length) : ∀ (cuts : List Nat) (a f : Nat), a ≤ x.length → ChainG x y x.length a cuts f → (∀ k, f ≤ k → ¬ At x y x.length k) →
    (Str.join z (partsFrom x y.length a cuts)).cps.toList = rep y.cps.toList z.cps.toList (x.cps.toList.drop a)
  | [], a, f, ha, h, hn => by
    have e : f = a := h
    subst e
    show (Str.join z [strSub x f x.length]).cps.toList = _
    show (strSub x f x.length).cps.toList = _
    rw [strSub_toList, rep_none (by exact hy) f (fun k hk q => hn k hk ((at_iff hy).mpr q)), List.take_of_length_le (by rw [List.length_drop]; exact Nat.le_refl _)]
  | c :: r, a, f, ha, h, hn => by
    obtain ⟨h1, h2, h3, h4⟩ := h
    have hc : c + y.length ≤ x.length := h2.1
    have ih := rep_parts (z := z) hy r (c + y.length) f hc h4 hn
    have e : partsFrom x y.length a (c :: r) = strSub x a c :: partsFrom x y.length (c + y.length) r := rfl
    obtain ⟨p, q, e2⟩ := partsFrom_ne x y.length (c + y.length) r
    have e3 : Str.join z (strSub x a c :: partsFrom x y.length (c + y.length) r) = strSub x a c ++ z ++ Str.join z (partsFrom x y.length (c + y.length) r) := by rw [e2]; rfl
    rw [e, e3]
    simp only [Str.cps_append, Array.toList_append, strSub_toList]
    rw [ih]
    have hlen : x.cps.toList.length = x.length := by simp [Str.length]
    have g := rep_gap (y := y.cps.toList) (z := z.cps.toList) (l := x.cps.toList) (by exact hy) (c - a) a (fun k q1 q2 q => h3 k q1 (by omega) ((at_iff hy).mpr q)) (by omega)
    rw [g]
    have e4 : a + (c - a) = c := by omega
    rw [e4]
    have hcl : c < x.cps.toList.length := by omega
    have e5 := at_list h2
    have e6 : rep y.cps.toList z.cps.toList (x.cps.toList.drop c) = z.cps.toList ++ rep y.cps.toList z.cps.toList (x.cps.toList.drop (c + y.length)) := by
      rw [List.drop_eq_getElem_cons hcl, rep_cons (by exact hy), ← List.drop_eq_getElem_cons hcl]
      have e7 : y.cps.toList.length = y.length := by simp [Str.length]
      rw [e7, if_pos e5, List.drop_drop]
    rw [e6, List.append_assoc]
theorem replace_list {x y z : Str} (hy : 1 ≤ y.length) : (Txt.replace x y z).cps.toList = rep y.cps.toList z.cps.toList x.cps.toList := by
  obtain ⟨f, h1, h2⟩ := occ_tight x y hy
  have key := rep_parts (z := z) hy _ 0 f (Nat.zero_le _) h1 h2
  rw [List.drop_zero] at key
  rw [← key]
  unfold Txt.replace
  have h0 : (y.length == 0) = false := by simp; omega
  rw [h0, Bool.false_and, Bool.or_false]
  cases he : (occurrences x y 0 x.length (x.length + 1)).isEmpty
  · rw [if_neg Bool.false_ne_true, glued_eq_join, partsBetween_eq]
  · rw [if_pos rfl, List.isEmpty_iff.mp he]
    show _ = (strSub x 0 x.length).cps.toList
    rw [sub_whole]
theorem rep_one (c d : Nat) : ∀ l : List Nat, rep [c] [d] l = l.map fun q => if q = c then d else q
  | [] => rfl
  | q :: r => by
    rw [rep_cons (Nat.le_refl _), List.map_cons, ← rep_one c d r]
    simp only [List.length_singleton, List.take_succ_cons, List.take_zero, List.drop_succ_cons, List.drop_zero]
    by_cases h : q = c
    · subst h; rw [if_pos rfl, if_pos rfl]; rfl
    · rw [if_neg (by simpa using h), if_neg h]
theorem rep_len {y z : List Nat} (hy : 1 ≤ y.length) (hz : z.length ≤ y.length) : ∀ (n : Nat) (l : List Nat), l.length ≤ n → (rep y z l).length ≤ l.length
  | _, [], _ => Nat.le_refl _
  | 0, _ :: _, h => by simp at h
  | n + 1, c :: r, h => by
    simp only [List.length_cons] at h
    rw [rep_cons hy]
    split
    · rename_i q
      have h1 := rep_len hy hz n ((c :: r).drop y.length) (by rw [List.length_drop, List.length_cons]; omega)
      rw [List.length_append]
      rw [List.length_drop] at h1
      have h2 := congrArg List.length q
      rw [List.length_take] at h2
      omega
    · have h1 := rep_len hy hz n r (by omega)
      simp only [List.length_cons]; omega
theorem rep_le {x a b : Str} (h : b.length ≤ a.length) (h0 : a.length ≠ 0) : (Txt.replace x a b).length ≤ x.length := by
  have e := replace_list (x := x) (y := a) (z := b) (by omega)
  have h1 := rep_len (y := a.cps.toList) (z := b.cps.toList) (by show 1 ≤ a.length; omega) h _ x.cps.toList (Nat.le_refl _)
  rw [← e] at h1
  exact h1
/-! pieces with a sign between that stands in no pattern -/
theorem rep_sep {y z : List Nat} (hy : 1 ≤ y.length) {c : Nat} (hc : c ∉ y) : ∀ (n : Nat) (p r : List Nat), p.length ≤ n → rep y z (p ++ c :: r) = rep y z p ++ c :: rep y z r
  | _, [], r, _ => by
    rw [List.nil_append, rep_cons hy, rep_nil, List.nil_append, if_neg]
    intro q
    obtain ⟨y0, ys, rfl⟩ : ∃ a b, y = a :: b := by cases y with | nil => simp at hy | cons a b => exact ⟨a, b, rfl⟩
    simp only [List.length_cons, List.take_succ_cons] at q
    injection q with q _
    exact hc (by rw [q]; exact .head _)
  | 0, _ :: _, _, h => by simp at h
  | n + 1, d :: p, r, h => by
    simp only [List.length_cons] at h
    rw [List.cons_append, rep_cons hy, rep_cons hy]
    have e : ((d :: (p ++ c :: r)).take y.length = y) ↔ ((d :: p).take y.length = y) := by
      rw [← List.cons_append]
      by_cases hl : y.length ≤ (d :: p).length
      · rw [List.take_append_of_le_length hl]
      · refine ⟨fun q => ?_, fun q => ?_⟩
        · exfalso
          rw [List.take_append] at q
          have : y.length - (d :: p).length = (y.length - (d :: p).length - 1) + 1 := by omega
          rw [this, List.take_succ_cons] at q
          exact hc (by rw [← q]; simp)
        · exfalso
          have := congrArg List.length q
          rw [List.length_take] at this
          omega
    by_cases hq : (d :: p).take y.length = y
    · rw [if_pos (e.mpr hq), if_pos hq]
      have hl : y.length ≤ (d :: p).length := by
        have := congrArg List.length hq
        rw [List.length_take] at this
        omega
      rw [← List.cons_append, List.drop_append_of_le_length hl, rep_sep hy hc n _ r (by rw [List.length_drop, List.length_cons]; omega), List.append_assoc]
    · rw [if_neg (fun q => hq (e.mp q)), if_neg hq, rep_sep hy hc n p r (by omega)]
      rfl
/-- pieces with a hyphen between -/
def jl : List (List Nat) → List Nat
  | [] => []
  | [p] => p
  | p :: q :: r => p ++ 45 :: jl (q :: r)
theorem rep_jl {y z : List Nat} (hy : 1 ≤ y.length) (hc : 45 ∉ y) : ∀ ps : List (List Nat), rep y z (jl ps) = jl (ps.map (rep y z))
  | [] => rfl
  | [p] => rfl
  | p :: q :: r => by
    rw [jl, rep_sep hy hc _ p _ (Nat.le_refl _), rep_jl hy hc (q :: r)]
    rfl
theorem map_jl {f : Nat → Nat} (hf : f 45 = 45) : ∀ ps : List (List Nat), (jl ps).map f = jl (ps.map (List.map f))
  | [] => rfl
  | [p] => rfl
  | p :: q :: r => by
    rw [jl, List.map_append, List.map_cons, hf, map_jl hf (q :: r)]
    rfl
theorem dash_is : Str.ofString "-" = ⟨#[45]⟩ := by decide +kernel
theorem join_jl : ∀ ps : List Str, (Txt.join (Str.ofString "-") ps).cps.toList = jl (ps.map fun p => p.cps.toList) := by
  intro ps
  unfold Txt.join
  rw [glued_eq_join]
  induction ps with
  | nil => rfl
  | cons p r ih =>
    cases r with
    | nil => rfl
    | cons q r =>
      show (p ++ Str.ofString "-" ++ Str.join (Str.ofString "-") (q :: r)).cps.toList = _
      simp only [Str.cps_append, Array.toList_append]
      rw [ih, dash_is]
      simp [jl]
end Mine
end

section
open PySem PySem.W PyProof.Rows PySem.Calls PySem.Spec
namespace Mine
def Hold (P : Prop) : Prop := P
theorem newsSet {h₀ h h' : Heap} {L I : Addr} {o o' : Obj} {nw : List (Addr × Obj)} (N : News h₀ L h ((I, o) :: nw)) (hne : ∀ p ∈ nw, p.1 ≠ I) (hs : Heap.ExtBut I h h') (ho : h'.get? I = some o') : News h₀ L h' ((I, o') :: nw) := by
  intro p hp
  rcases List.mem_cons.mp hp with rfl | hp
  · exact ⟨ho, (N _ (.head _)).2⟩
  · exact ⟨hs _ _ (hne p hp) (N p (.tail _ hp)).1, (N p (.tail _ hp)).2⟩
theorem newsBut {h₀ h h' : Heap} {L I : Addr} {o : Obj} {nw : List (Addr × Obj)} (N : News h₀ L h ((I, o) :: nw)) (hne : ∀ p ∈ nw, p.1 ≠ I) (hs : Heap.ExtBut I h h') : News h₀ L h' nw :=
  fun p hp => ⟨hs _ _ (hne p hp) (N p (.tail _ hp)).1, (N p (.tail _ hp)).2⟩
theorem frBut {h₀ h h' : Heap} {L P : Addr} {m : Str → Option Value} (F : Fr h₀ L h m) (hb : Heap.ExtBut P h h') (hL : L ≠ P) (h0 : h₀.get? P = none) : Fr h₀ L h' m := by
  obtain ⟨oL, es, ep, hoL, r⟩ := F.ns
  exact ⟨⟨oL, es, ep, hb _ _ hL hoL, r⟩, fun b o e => hb b o (fun q => by rw [q, h0] at e; cases e) (F.keep b o e), F.above⟩
section
variable {prog : Program} {w : World} {A : Around} {E : Value → Shared → Prop} {Q : Flow → Shared → Prop} {s : Shared} {h₀ : Heap} {L f : Addr} {nm : Str} {sc : Scope} {cd : Value} {cl : List (Str × Addr)}
/-- a for over an iterator that lies in the ledger -/
theorem For_led {x : Str} {px : Pos} {body : List Stmt} {I : Addr} {n : Nat} {Ob : Nat → Obj → Prop} {P : Nat → Value → Prop}
    (Φ : Nat → (Str → Option Value) → List (Addr × Obj) → Array GenState → Prop) {m₀ : Str → Option Value} {nw₀ : List (Addr × Obj)} {o₀ : Obj}
    (hne : ∀ i m nw gs, Φ i m nw gs → ∀ p ∈ nw, p.1 ≠ I)
    (F : Fr h₀ L s.heap m₀) (N : News h₀ L s.heap ((I, o₀) :: nw₀)) (ho : Ob 0 o₀) (hΦ : Φ 0 m₀ nw₀ s.gens)
    (step : ∀ i m nw gs h tk o (Q' : Option Value → Shared → Prop) (E' : Value → Shared → Prop), i < n → Φ i m nw gs → Fr h₀ L h m → News h₀ L h ((I, o) :: nw) → Ob i o →
      (∀ v h' tk' o', P i v → h'.get? I = some o' → Ob (i + 1) o' → Heap.SameBut I h h' → Q' (some v) { s with heap := h', toks := tk', gens := gs }) → wpAny (model prog w) A (pyNext (.ref I)) Q' E' { s with heap := h, toks := tk, gens := gs })
    (stop : ∀ m nw gs h tk o (Q' : Option Value → Shared → Prop) (E' : Value → Shared → Prop), Φ n m nw gs → Fr h₀ L h m → News h₀ L h ((I, o) :: nw) → Ob n o →
      (∀ h' tk', Heap.ExtBut I h h' → Q' none { s with heap := h', toks := tk', gens := gs }) → wpAny (model prog w) A (pyNext (.ref I)) Q' E' { s with heap := h, toks := tk, gens := gs })
    (turn : ∀ i v m nw gs h tk o, i < n → P i v → Φ i m nw gs → Fr h₀ L h (fun y => if y = x then some v else m y) → News h₀ L h ((I, o) :: nw) → Ob (i + 1) o → s.toks ≤ tk →
      wpAny (model prog w) A (execs body (envX nm sc L f cd cl)) (fun fl s₃ => match fl with
        | .next => Hold (s.toks ≤ s₃.toks → ∃ m' nw' gs' h' tk' o', s₃ = { s with heap := h', toks := tk', gens := gs' } ∧ Fr h₀ L h' m' ∧ News h₀ L h' ((I, o') :: nw') ∧ Ob (i + 1) o' ∧ Φ (i + 1) m' nw' gs')
        | .cont => Hold (s.toks ≤ s₃.toks → ∃ m' nw' gs' h' tk' o', s₃ = { s with heap := h', toks := tk', gens := gs' } ∧ Fr h₀ L h' m' ∧ News h₀ L h' ((I, o') :: nw') ∧ Ob (i + 1) o' ∧ Φ (i + 1) m' nw' gs')
        | .brk => Q .next s₃
        | .ret v => Q (.ret v) s₃) E { s with heap := h, toks := tk, gens := gs })
    (done : ∀ m nw gs h tk, Φ n m nw gs → Fr h₀ L h m → News h₀ L h nw → s.toks ≤ tk → Q .next { s with heap := h, toks := tk, gens := gs })
    (hx : (envX nm sc L f cd cl).kindOf x = some .local := by rfl) (hk : sc.kind = .function := by rfl)
    (hE : PassesOwn (model prog w) A (envX nm sc L f cd cl) E := by passes_own) :
    codeAny (model prog w) A (.forLoop (.Name x px) (.ref I) body [] (envX nm sc L f cd cl)) (fun r s' => match r with | .ok f => Q f s' | .error e => cameBackBy (model prog w) A (envX nm sc L f cd cl) E e s') s := by
  refine codeAny_forLoop_any (fun k s' => ∃ i m nw gs h tk o, k = n - i ∧ i ≤ n ∧ s' = { s with heap := h, toks := tk, gens := gs } ∧ s.toks ≤ tk ∧ Fr h₀ L h m ∧ News h₀ L h ((I, o) :: nw) ∧ Ob i o ∧ Φ i m nw gs) ?_ n ⟨0, m₀, nw₀, s.gens, s.heap, s.toks, o₀, rfl, Nat.zero_le _, rfl, Nat.le_refl _, F, N, ho, hΦ⟩
  rintro k s' ⟨i, m, nw, gs, h, tk, o, rfl, hi, rfl, htk, F₁, N₁, ho₁, hΦ₁⟩
  have hLI : L ≠ I := fun q => (N₁ _ (.head _)).2.1 q.symm
  have hI0 : h₀.get? I = none := (N₁ _ (.head _)).2.2
  rcases Nat.lt_or_eq_of_le hi with hi | rfl
  · refine wpAny_with_toks (n := s.toks) htk (step i m nw gs h tk o _ _ hi hΦ₁ F₁ N₁ ho₁ fun v h' tk' o' hP ho' hOb hs htk' => ?_)
    refine wpAny_pure ?_
    have F₂ := frBut F₁ hs.extBut hLI hI0
    have N₂ := newsSet N₁ (hne _ _ _ _ hΦ₁) hs.extBut ho'
    refine wpAny_assign_Name (storeX_L F₂ N₂ (fun h₃ F₃ N₃ => ?_) hk hx)
    refine wpAny_with_toks (n := s.toks) (Nat.le_succ_of_le htk') (wpAny_mono (turn i v m nw gs h₃ _ o' hi hP hΦ₁ F₃ N₃ hOb (Nat.le_succ_of_le htk')) (fun fl s₄ q htk4 => ?_) fun e s₄ q _ => hE e s₄ q)
    have fin : Hold (s.toks ≤ s₄.toks → ∃ m' nw' gs' h' tk' o', s₄ = { s with heap := h', toks := tk', gens := gs' } ∧ Fr h₀ L h' m' ∧ News h₀ L h' ((I, o') :: nw') ∧ Ob (i + 1) o' ∧ Φ (i + 1) m' nw' gs') →
        ∃ k', k' < n - i ∧ ∃ i' m nw gs h tk o, k' = n - i' ∧ i' ≤ n ∧ s₄ = { s with heap := h, toks := tk, gens := gs } ∧ s.toks ≤ tk ∧ Fr h₀ L h m ∧ News h₀ L h ((I, o) :: nw) ∧ Ob i' o ∧ Φ i' m nw gs := fun z => by
      obtain ⟨m', nw', gs', h', tk', o'', rfl, F', N', O', Φ'⟩ := z htk4
      exact ⟨n - (i + 1), by omega, i + 1, m', nw', gs', h', tk', o'', rfl, hi, rfl, htk4, F', N', O', Φ'⟩
    cases fl with
    | next => exact fin q
    | cont => exact fin q
    | brk => exact q
    | ret v => exact q
  · refine wpAny_with_toks (n := s.toks) htk (stop m nw gs h tk o _ _ hΦ₁ F₁ N₁ ho₁ fun h' tk' hs htk' => ?_)
    exact wpAny_execs_nil (done m nw gs h' tk' hΦ₁ (frBut F₁ hs hLI hI0) (newsBut N₁ (hne _ _ _ _ hΦ₁) hs) htk')
/-- a for over an iterator that lies in the ledger -/
theorem For_led1 {x : Str} {px : Pos} {body : List Stmt} {I : Addr} {n : Nat} {Ob : Nat → Obj → Prop} {P : Nat → Value → Prop}
    (Φ : Nat → (Str → Option Value) → List (Addr × Obj) → Array GenState → Prop) {m₀ : Str → Option Value} {nw₀ : List (Addr × Obj)} {o₀ : Obj}
    (hne : ∀ i m nw gs, Φ i m nw gs → ∀ p ∈ nw, p.1 ≠ I)
    (F : Fr h₀ L s.heap m₀) (N : News h₀ L s.heap ((I, o₀) :: nw₀)) (ho : Ob 0 o₀) (hΦ : Φ 0 m₀ nw₀ s.gens)
    (step : ∀ i m nw gs h tk o (Q' : Option Value → Shared → Prop) (E' : Value → Shared → Prop), i < n → Φ i m nw gs → Fr h₀ L h m → News h₀ L h ((I, o) :: nw) → Ob i o →
      (∀ v h' tk' o', P i v → h'.get? I = some o' → Ob (i + 1) o' → Heap.SameBut I h h' → Q' (some v) { s with heap := h', toks := tk', gens := gs }) → wpAny (model prog w) A (pyNext (.ref I)) Q' E' { s with heap := h, toks := tk, gens := gs })
    (stop : ∀ m nw gs h tk o (Q' : Option Value → Shared → Prop) (E' : Value → Shared → Prop), Φ n m nw gs → Fr h₀ L h m → News h₀ L h ((I, o) :: nw) → Ob n o →
      (∀ h' tk', Heap.ExtBut I h h' → Q' none { s with heap := h', toks := tk', gens := gs }) → wpAny (model prog w) A (pyNext (.ref I)) Q' E' { s with heap := h, toks := tk, gens := gs })
    (turn : ∀ i v m nw gs h tk o, i < n → P i v → Φ i m nw gs → Fr h₀ L h (fun y => if y = x then some v else m y) → News h₀ L h ((I, o) :: nw) → Ob (i + 1) o → s.toks ≤ tk → 1 ≤ tk →
      wpAny (model prog w) A (execs body (envX nm sc L f cd cl)) (fun fl s₃ => match fl with
        | .next => Hold (s.toks ≤ s₃.toks → ∃ m' nw' gs' h' tk' o', s₃ = { s with heap := h', toks := tk', gens := gs' } ∧ Fr h₀ L h' m' ∧ News h₀ L h' ((I, o') :: nw') ∧ Ob (i + 1) o' ∧ Φ (i + 1) m' nw' gs')
        | .cont => Hold (s.toks ≤ s₃.toks → ∃ m' nw' gs' h' tk' o', s₃ = { s with heap := h', toks := tk', gens := gs' } ∧ Fr h₀ L h' m' ∧ News h₀ L h' ((I, o') :: nw') ∧ Ob (i + 1) o' ∧ Φ (i + 1) m' nw' gs')
        | .brk => Q .next s₃
        | .ret v => Q (.ret v) s₃) E { s with heap := h, toks := tk, gens := gs })
    (done : ∀ m nw gs h tk, Φ n m nw gs → Fr h₀ L h m → News h₀ L h nw → s.toks ≤ tk → Q .next { s with heap := h, toks := tk, gens := gs })
    (hx : (envX nm sc L f cd cl).kindOf x = some .local := by rfl) (hk : sc.kind = .function := by rfl)
    (hE : PassesOwn (model prog w) A (envX nm sc L f cd cl) E := by passes_own) :
    codeAny (model prog w) A (.forLoop (.Name x px) (.ref I) body [] (envX nm sc L f cd cl)) (fun r s' => match r with | .ok f => Q f s' | .error e => cameBackBy (model prog w) A (envX nm sc L f cd cl) E e s') s := by
  refine codeAny_forLoop_any (fun k s' => ∃ i m nw gs h tk o, k = n - i ∧ i ≤ n ∧ s' = { s with heap := h, toks := tk, gens := gs } ∧ s.toks ≤ tk ∧ Fr h₀ L h m ∧ News h₀ L h ((I, o) :: nw) ∧ Ob i o ∧ Φ i m nw gs) ?_ n ⟨0, m₀, nw₀, s.gens, s.heap, s.toks, o₀, rfl, Nat.zero_le _, rfl, Nat.le_refl _, F, N, ho, hΦ⟩
  rintro k s' ⟨i, m, nw, gs, h, tk, o, rfl, hi, rfl, htk, F₁, N₁, ho₁, hΦ₁⟩
  have hLI : L ≠ I := fun q => (N₁ _ (.head _)).2.1 q.symm
  have hI0 : h₀.get? I = none := (N₁ _ (.head _)).2.2
  rcases Nat.lt_or_eq_of_le hi with hi | rfl
  · refine wpAny_with_toks (n := s.toks) htk (step i m nw gs h tk o _ _ hi hΦ₁ F₁ N₁ ho₁ fun v h' tk' o' hP ho' hOb hs htk' => ?_)
    refine wpAny_pure ?_
    have F₂ := frBut F₁ hs.extBut hLI hI0
    have N₂ := newsSet N₁ (hne _ _ _ _ hΦ₁) hs.extBut ho'
    refine wpAny_assign_Name (storeX_L F₂ N₂ (fun h₃ F₃ N₃ => ?_) hk hx)
    refine wpAny_with_toks (n := s.toks) (Nat.le_succ_of_le htk') (wpAny_mono (turn i v m nw gs h₃ _ o' hi hP hΦ₁ F₃ N₃ hOb (Nat.le_succ_of_le htk') (Nat.le_add_left 1 _)) (fun fl s₄ q htk4 => ?_) fun e s₄ q _ => hE e s₄ q)
    have fin : Hold (s.toks ≤ s₄.toks → ∃ m' nw' gs' h' tk' o', s₄ = { s with heap := h', toks := tk', gens := gs' } ∧ Fr h₀ L h' m' ∧ News h₀ L h' ((I, o') :: nw') ∧ Ob (i + 1) o' ∧ Φ (i + 1) m' nw' gs') →
        ∃ k', k' < n - i ∧ ∃ i' m nw gs h tk o, k' = n - i' ∧ i' ≤ n ∧ s₄ = { s with heap := h, toks := tk, gens := gs } ∧ s.toks ≤ tk ∧ Fr h₀ L h m ∧ News h₀ L h ((I, o) :: nw) ∧ Ob i' o ∧ Φ i' m nw gs := fun z => by
      obtain ⟨m', nw', gs', h', tk', o'', rfl, F', N', O', Φ'⟩ := z htk4
      exact ⟨n - (i + 1), by omega, i + 1, m', nw', gs', h', tk', o'', rfl, hi, rfl, htk4, F', N', O', Φ'⟩
    cases fl with
    | next => exact fin q
    | cont => exact fin q
    | brk => exact q
    | ret v => exact q
  · refine wpAny_with_toks (n := s.toks) htk (stop m nw gs h tk o _ _ hΦ₁ F₁ N₁ ho₁ fun h' tk' hs htk' => ?_)
    exact wpAny_execs_nil (done m nw gs h' tk' hΦ₁ (frBut F₁ hs hLI hI0) (newsBut N₁ (hne _ _ _ _ hΦ₁) hs) htk')
/-- the same, the loop's name a cell -/
theorem For_ledC {x : Str} {px : Pos} {body : List Stmt} {I c : Addr} {n : Nat} {Ob : Nat → Obj → Prop} {P : Nat → Value → Prop}
    (Φ : Nat → (Str → Option Value) → List (Addr × Obj) → Array GenState → Prop) {m₀ : Str → Option Value} {nw₀ : List (Addr × Obj)} {o₀ oc₀ : Obj} {cv₀ : Option Value}
    (hne : ∀ i m nw gs, Φ i m nw gs → ∀ p ∈ nw, p.1 ≠ I ∧ p.1 ≠ c) (hcI : c ≠ I) (hcc : cl.lookup x = some c)
    (F : Fr h₀ L s.heap m₀) (N : News h₀ L s.heap ((I, o₀) :: (c, oc₀) :: nw₀)) (hoc : oc₀.data = .cell cv₀) (ho : Ob 0 o₀) (hΦ : Φ 0 m₀ nw₀ s.gens)
    (step : ∀ i m nw gs h tk o (Q' : Option Value → Shared → Prop) (E' : Value → Shared → Prop), i < n → Φ i m nw gs → Fr h₀ L h m → News h₀ L h ((I, o) :: nw) → Ob i o →
      (∀ v h' tk' o', P i v → h'.get? I = some o' → Ob (i + 1) o' → Heap.SameBut I h h' → Q' (some v) { s with heap := h', toks := tk', gens := gs }) → wpAny (model prog w) A (pyNext (.ref I)) Q' E' { s with heap := h, toks := tk, gens := gs })
    (stop : ∀ m nw gs h tk o (Q' : Option Value → Shared → Prop) (E' : Value → Shared → Prop), Φ n m nw gs → Fr h₀ L h m → News h₀ L h ((I, o) :: nw) → Ob n o →
      (∀ h' tk', Heap.ExtBut I h h' → Q' none { s with heap := h', toks := tk', gens := gs }) → wpAny (model prog w) A (pyNext (.ref I)) Q' E' { s with heap := h, toks := tk, gens := gs })
    (turn : ∀ i v m nw gs h tk o oc, i < n → P i v → Φ i m nw gs → Fr h₀ L h m → News h₀ L h ((I, o) :: (c, oc) :: nw) → oc.data = .cell (some v) → Ob (i + 1) o → s.toks ≤ tk →
      wpAny (model prog w) A (execs body (envX nm sc L f cd cl)) (fun fl s₃ => match fl with
        | .next => Hold (s.toks ≤ s₃.toks → ∃ m' nw' gs' h' tk' o' oc' cv, s₃ = { s with heap := h', toks := tk', gens := gs' } ∧ Fr h₀ L h' m' ∧ News h₀ L h' ((I, o') :: (c, oc') :: nw') ∧ oc'.data = .cell cv ∧ Ob (i + 1) o' ∧ Φ (i + 1) m' nw' gs')
        | .cont => Hold (s.toks ≤ s₃.toks → ∃ m' nw' gs' h' tk' o' oc' cv, s₃ = { s with heap := h', toks := tk', gens := gs' } ∧ Fr h₀ L h' m' ∧ News h₀ L h' ((I, o') :: (c, oc') :: nw') ∧ oc'.data = .cell cv ∧ Ob (i + 1) o' ∧ Φ (i + 1) m' nw' gs')
        | .brk => Q .next s₃
        | .ret v => Q (.ret v) s₃) E { s with heap := h, toks := tk, gens := gs })
    (done : ∀ m nw gs h tk oc cv, Φ n m nw gs → Fr h₀ L h m → News h₀ L h ((c, oc) :: nw) → oc.data = .cell cv → s.toks ≤ tk → Q .next { s with heap := h, toks := tk, gens := gs })
    (hx : (envX nm sc L f cd cl).kindOf x = some .cell := by rfl) (hk : sc.kind = .function := by rfl)
    (hE : PassesOwn (model prog w) A (envX nm sc L f cd cl) E := by passes_own) :
    codeAny (model prog w) A (.forLoop (.Name x px) (.ref I) body [] (envX nm sc L f cd cl)) (fun r s' => match r with | .ok f => Q f s' | .error e => cameBackBy (model prog w) A (envX nm sc L f cd cl) E e s') s := by
  refine codeAny_forLoop_any (fun k s' => ∃ i m nw gs h tk o oc cv, k = n - i ∧ i ≤ n ∧ s' = { s with heap := h, toks := tk, gens := gs } ∧ s.toks ≤ tk ∧ Fr h₀ L h m ∧ News h₀ L h ((I, o) :: (c, oc) :: nw) ∧ oc.data = .cell cv ∧ Ob i o ∧ Φ i m nw gs) ?_ n ⟨0, m₀, nw₀, s.gens, s.heap, s.toks, o₀, oc₀, cv₀, rfl, Nat.zero_le _, rfl, Nat.le_refl _, F, N, hoc, ho, hΦ⟩
  rintro k s' ⟨i, m, nw, gs, h, tk, o, oc, cv, rfl, hi, rfl, htk, F₁, N₁, hoc₁, ho₁, hΦ₁⟩
  have hLI : L ≠ I := fun q => (N₁ _ (.head _)).2.1 q.symm
  have hI0 : h₀.get? I = none := (N₁ _ (.head _)).2.2
  have hnI : ∀ p ∈ (c, oc) :: nw, p.1 ≠ I := fun p hp => by
    rcases List.mem_cons.mp hp with rfl | hp
    · exact hcI
    · exact (hne _ _ _ _ hΦ₁ p hp).1
  have N₁' : News h₀ L h ((I, o) :: nw) := fun p hp => N₁ p (by
    rcases List.mem_cons.mp hp with rfl | hp
    · exact .head _
    · exact .tail _ (.tail _ hp))
  rcases Nat.lt_or_eq_of_le hi with hi | rfl
  · refine wpAny_with_toks (n := s.toks) htk (step i m nw gs h tk o _ _ hi hΦ₁ F₁ N₁' ho₁ fun v h' tk' o' hP ho' hOb hs htk' => ?_)
    refine wpAny_pure ?_
    have F₂ := frBut F₁ hs.extBut hLI hI0
    have N₂ := newsSet N₁ hnI hs.extBut ho'
    refine wpAny_assign_Name (storeX_C F₂ N₂ hcc (.tail (fun q => hcI q.symm) (.head fun p hp => (hne _ _ _ _ hΦ₁ p hp).2)) hoc₁ (fun h₃ oc₃ F₃ N₃ hd₃ => ?_) hk hx)
    refine wpAny_with_toks (n := s.toks) htk' (wpAny_mono (turn i v m nw gs h₃ _ o' oc₃ hi hP hΦ₁ F₃ N₃ hd₃ hOb htk') (fun fl s₄ q htk4 => ?_) fun e s₄ q _ => hE e s₄ q)
    have fin : Hold (s.toks ≤ s₄.toks → ∃ m' nw' gs' h' tk' o' oc' cv, s₄ = { s with heap := h', toks := tk', gens := gs' } ∧ Fr h₀ L h' m' ∧ News h₀ L h' ((I, o') :: (c, oc') :: nw') ∧ oc'.data = .cell cv ∧ Ob (i + 1) o' ∧ Φ (i + 1) m' nw' gs') →
        ∃ k', k' < n - i ∧ ∃ i' m nw gs h tk o oc cv, k' = n - i' ∧ i' ≤ n ∧ s₄ = { s with heap := h, toks := tk, gens := gs } ∧ s.toks ≤ tk ∧ Fr h₀ L h m ∧ News h₀ L h ((I, o) :: (c, oc) :: nw) ∧ oc.data = .cell cv ∧ Ob i' o ∧ Φ i' m nw gs := fun z => by
      obtain ⟨m', nw', gs', h', tk', o'', oc', cv', rfl, F', N', hd', O', Φ'⟩ := z htk4
      exact ⟨n - (i + 1), by omega, i + 1, m', nw', gs', h', tk', o'', oc', cv', rfl, hi, rfl, htk4, F', N', hd', O', Φ'⟩
    cases fl with
    | next => exact fin q
    | cont => exact fin q
    | brk => exact q
    | ret v => exact q
  · refine wpAny_with_toks (n := s.toks) htk (stop m nw gs h tk o _ _ hΦ₁ F₁ N₁' ho₁ fun h' tk' hs htk' => ?_)
    exact wpAny_execs_nil (done m nw gs h' tk' oc cv hΦ₁ (frBut F₁ hs hLI hI0) (newsBut N₁ hnI hs) hoc₁ htk')
end
/-! the two kinds of iterator -/
def RObj (i : Nat) (k n : Nat) : Obj := { cls := .type "range_iterator", dict := none, data := .fields #[rawInt ((i + k : Nat) : Int), rawInt ((n : Int) - (k : Int)), rawInt 1], slots := #[] }
section
variable {prog : Program} {w : World} {A : Around} {s : Shared} {h₀ h : Heap} {L I : Addr} {m : Str → Option Value} {nw : List (Addr × Obj)} {o : Obj} {tk : Nat} {gs : Array GenState} {i n : Nat} {Q' : Option Value → Shared → Prop} {E' : Value → Shared → Prop}
theorem range_step (hi : i < n) (N : News h₀ L h ((I, o) :: nw)) (ho : o = RObj 0 i n)
    (q : ∀ v h' tk' o', (∃ t, v = .int (i : Int) t) → h'.get? I = some o' → o' = RObj 0 (i + 1) n → Heap.SameBut I h h' → Q' (some v) { s with heap := h', toks := tk', gens := gs }) :
    wpAny (model prog w) A (pyNext (.ref I)) Q' E' { s with heap := h, toks := tk, gens := gs } := by
  subst ho
  have hit : IsRangeIter h I (((0 + i : Nat) : Int)) ((n : Int) - (i : Int)) 1 := (N _ (.head _)).1
  have e0 : ((0 + i : Nat) : Int) = (i : Int) := by omega
  refine wpAny_pyNext_range_item hit (by omega) fun h' hit' hs => ?_
  refine q _ h' (tk + 1) _ ⟨tk, by show Value.int _ tk = _; rw [e0]⟩ hit' ?_ hs
  unfold RObj
  have e1 : ((0 + i : Nat) : Int) + 1 = ((0 + (i + 1) : Nat) : Int) := by omega
  have e2 : (n : Int) - (i : Int) - 1 = (n : Int) - ((i + 1 : Nat) : Int) := by omega
  rw [e1, e2]
theorem range_stop (hh : A.handled = none) (N : News h₀ L h ((I, o) :: nw)) (ho : o = RObj 0 n n)
    (q : ∀ h' tk', Heap.ExtBut I h h' → Q' none { s with heap := h', toks := tk', gens := gs }) :
    wpAny (model prog w) A (pyNext (.ref I)) Q' E' { s with heap := h, toks := tk, gens := gs } := by
  subst ho
  have hit : IsRangeIter h I (((0 + n : Nat) : Int)) ((n : Int) - (n : Int)) 1 := (N _ (.head _)).1
  exact wpAny_pyNext_range_end hh hit (by omega) fun h' hs => q h' _ hs
def LOb (l : Addr) (i : Nat) (o : Obj) : Prop := o.cls = .type "list_iterator" ∧ o.data = .fields #[.ref l, .int i 0]
theorem list_step {l : Addr} {vs : List Value} {v : Value} (hv : vs[i]? = some v) (hl : h.IsList l vs.toArray) (N : News h₀ L h ((I, o) :: nw)) (ho : LOb l i o)
    (q : ∀ v h' tk' o', vs[i]? = some v → h'.get? I = some o' → LOb l (i + 1) o' → Heap.SameBut I h h' → Q' (some v) { s with heap := h', toks := tk', gens := gs }) :
    wpAny (model prog w) A (pyNext (.ref I)) Q' E' { s with heap := h, toks := tk, gens := gs } := by
  refine wpAny_pyNext_list_item (items := vs.toArray) ⟨o, (N _ (.head _)).1, ho.1, ho.2⟩ hl (by simpa using hv) fun h' hit hs => ?_
  obtain ⟨o', ho', hc, hd⟩ := hit
  exact q v h' _ o' hv ho' ⟨hc, hd⟩ hs
theorem list_stop {l : Addr} {vs : List Value} (hh : A.handled = none) (hl : h.IsList l vs.toArray) (N : News h₀ L h ((I, o) :: nw)) (ho : LOb l vs.length o)
    (q : ∀ h' tk', Heap.ExtBut I h h' → Q' none { s with heap := h', toks := tk', gens := gs }) :
    wpAny (model prog w) A (pyNext (.ref I)) Q' E' { s with heap := h, toks := tk, gens := gs } :=
  wpAny_pyNext_list_end (items := vs.toArray) hh ⟨o, (N _ (.head _)).1, ho.1, ho.2⟩ hl (by simp) fun h' hs => q h' _ hs
end
end Mine
end

section
open PySem PySem.W PyProof.Rows PySem.Calls PySem.Spec
namespace Mine
/-! the sort's questions, answered by an order on keys -/
def KH (lt : Nat → Nat → Bool) (V : Nat → Prop) {α : Type} : KasT α → (α → Prop) → Prop
  | .ret a, Q => Q a
  | .ask i j k, Q => V i ∧ V j ∧ KH lt V (k (lt i j)) Q
theorem KH_bind {lt : Nat → Nat → Bool} {V : Nat → Prop} {α β : Type} {f : α → KasT β} {Q : β → Prop} : ∀ {t : KasT α}, KH lt V t (fun a => KH lt V (f a) Q) → KH lt V (t.bind f) Q
  | .ret _, h => h
  | .ask _ _ _, h => ⟨h.1, h.2.1, KH_bind h.2.2⟩
theorem KH_wp {lt : Nat → Nat → Bool} {V : Nat → Prop} {α : Type} {cmp : Nat → Nat → (Bool → Shared → Prop) → Shared → Prop} {I : Shared → Prop} (hc : ∀ i j C s, V i → V j → I s → (∀ s', I s' → C (lt i j) s') → cmp i j C s) {P : α → Prop} {Q : α → Shared → Prop} (hq : ∀ a s', P a → I s' → Q a s') :
    ∀ (t : KasT α) (s : Shared), KH lt V t P → I s → t.kasWp cmp Q s
  | .ret a, s, h, hi => hq a s h hi
  | .ask i j k, s, h, hi => hc i j _ s h.1 h.2.1 hi fun s' hi' => KH_wp hc hq (k (lt i j)) s' h.2.2 hi'
section
variable (key : Nat → List (List Nat))
def Kp (p : Array Nat) (k : Nat) : List (List Nat) := key (p.getD k 0)
def klt (i j : Nat) : Bool := decide (key i < key j)
def STo (p : Array Nat) (m : Nat) : Prop := ∀ i j, i ≤ j → j < m → ¬ Kp key p j < Kp key p i
def NTo (p : Array Nat) (m : Nat) : Prop := ∀ i j, i ≤ j → j < m → ¬ Kp key p i < Kp key p j
def PermR (N : Nat) (p : Array Nat) : Prop := p.Perm (List.range N).toArray
abbrev VN (N : Nat) (i : Nat) : Prop := i < N
variable {key} {N : Nat} {p : Array Nat}
theorem ll_trans {a b c : List (List Nat)} (h : ¬ b < a) (k : ¬ c < b) : ¬ c < a := fun q => h (List.lt_of_le_of_lt (List.not_lt.mp k) q)
theorem ll_asymm {a b : List (List Nat)} (h : a < b) : ¬ b < a := fun q => List.lt_irrefl _ (List.lt_trans h q)
theorem ll_eq {a b : List (List Nat)} (h : ¬ a < b) (k : ¬ b < a) : a = b := List.le_antisymm (List.not_lt.mp k) (List.not_lt.mp h)
theorem PermR.size (h : PermR N p) : p.size = N := by have := h.size_eq; simpa using this
theorem PermR.v (h : PermR N p) (hN : 0 < N) (k : Nat) : VN N (p.getD k 0) := by
  by_cases hk : k < p.size
  · have e : p.getD k 0 = p[k] := by simp [Array.getD, hk]
    rw [e]
    have hm : p[k] ∈ p := Array.getElem_mem hk
    have := (h.mem_iff (a := p[k])).mp hm
    simpa using this
  · have e : p.getD k 0 = 0 := by simp [Array.getD, hk]
    rw [e]; exact hN
theorem Kp_congr {p q : Array Nat} {i j : Nat} (h : p[i]? = q[j]?) : Kp key p i = Kp key q j := by
  unfold Kp
  rw [Array.getD_eq_getD_getElem?, Array.getD_eq_getD_getElem?, h]
theorem Kp_rev {i j : Nat} (hj : j ≤ p.size) (k : Nat) : Kp key (kas_rev p i j) k = if i ≤ k ∧ k < j then Kp key p (i + j - 1 - k) else Kp key p k := by
  have e := getElem?_mirror_all (i := i) hj k
  unfold kas_rev
  by_cases h1 : i ≤ k ∧ k < j
  · rw [if_pos h1] at e ⊢; exact Kp_congr e
  · rw [if_neg h1] at e ⊢; exact Kp_congr e
theorem Kp_rev_eq {i j : Nat} (hj : j ≤ p.size) (heq : ∀ k, i ≤ k → k < j → Kp key p k = Kp key p (j - 1)) (k : Nat) : Kp key (kas_rev p i j) k = Kp key p k := by
  rw [Kp_rev hj]
  split
  · rw [heq _ (by omega) (by omega), heq k (by omega) (by omega)]
  · rfl
theorem rev_perm (h : PermR N p) (i j : Nat) : PermR N (kas_rev p i j) := (mirror_perm _ _ _ _).trans h
theorem Kp_bubble {src d : Nat} (hs : src < p.size) (hd : d ≤ src) (k : Nat) :
    Kp key (bubble p src d) k = if k = src - d then Kp key p src else if src - d < k ∧ k ≤ src then Kp key p (k - 1) else Kp key p k := by
  have e := getElem?_bubble hs d hd k
  by_cases h1 : k = src - d
  · rw [if_pos h1] at e ⊢; exact Kp_congr e
  · rw [if_neg h1] at e ⊢
    by_cases h2 : src - d < k ∧ k ≤ src
    · rw [if_pos h2] at e ⊢; exact Kp_congr e
    · rw [if_neg h2] at e ⊢; exact Kp_congr e
theorem STo.succ {m : Nat} (h : STo key p m) (hm : 1 ≤ m) (hl : ¬ Kp key p m < Kp key p (m - 1)) : STo key p (m + 1) := by
  intro i j hij hj
  by_cases hjx : j < m
  · exact h i j hij hjx
  · have hj' : j = m := by omega
    subst hj'
    by_cases hi' : i = j
    · subst hi'; exact List.lt_irrefl _
    · exact ll_trans (h i (j - 1) (by omega) (by omega)) hl
theorem NTo.succ {m : Nat} (h : NTo key p m) (hm : 1 ≤ m) (hl : ¬ Kp key p (m - 1) < Kp key p m) : NTo key p (m + 1) := by
  intro i j hij hj
  by_cases hjx : j < m
  · exact h i j hij hjx
  · have hj' : j = m := by omega
    subst hj'
    by_cases hi' : i = j
    · subst hi'; exact List.lt_irrefl _
    · exact ll_trans hl (h i (j - 1) (by omega) (by omega))
theorem asc_ok (hp : PermR N p) (hN : 0 < N) {Q : Nat → Prop} : ∀ (f n : Nat), 1 ≤ n → STo key p n → (∀ m, n ≤ m → m ≤ n + f → STo key p m → Q m) → KH (klt key) (VN N) (kas_asc p f n) Q
  | 0, n, _, hs, h => h n (Nat.le_refl _) (Nat.le_refl _) hs
  | f + 1, n, h1, hs, h => by
    refine ⟨hp.v hN _, hp.v hN _, ?_⟩
    cases hl : klt key (p.getD n 0) (p.getD (n - 1) 0)
    · dsimp only; rw [if_neg Bool.false_ne_true]
      have hl' : ¬ Kp key p n < Kp key p (n - 1) := of_decide_eq_false hl
      exact asc_ok hp hN f (n + 1) (by omega) (hs.succ h1 hl') fun m a b => h m (by omega) (by omega)
    · dsimp only; rw [if_pos rfl]
      exact h n (Nat.le_refl _) (by omega) hs
theorem desc_ok (hN : 0 < N) {Q : Array Nat × Nat × Nat → Prop} : ∀ (f : Nat) (p : Array Nat) (n q : Nat), PermR N p → 1 ≤ n → n + f ≤ N → NTo key p n → q + 1 ≤ n → (∀ i, n - (q + 1) ≤ i → i < n → Kp key p i = Kp key p (n - 1)) →
    (∀ p' m q', PermR N p' → n ≤ m → m ≤ n + f → NTo key p' m → q' + 1 ≤ m → (∀ i, m - (q' + 1) ≤ i → i < m → Kp key p' i = Kp key p' (m - 1)) → Q (p', m, q')) → KH (klt key) (VN N) (kas_desc f p n q) Q
  | 0, p, n, q, hp, _, _, hs, hq, he, h => h p n q hp (Nat.le_refl _) (Nat.le_refl _) hs hq he
  | f + 1, p, n, q, hp, h1, hf, hs, hq, he, h => by
    refine ⟨hp.v hN _, hp.v hN _, ?_⟩
    have hsz := hp.size
    cases hl : klt key (p.getD n 0) (p.getD (n - 1) 0)
    · dsimp only; rw [if_neg Bool.false_ne_true]
      have hl' : ¬ Kp key p n < Kp key p (n - 1) := of_decide_eq_false hl
      refine ⟨hp.v hN _, hp.v hN _, ?_⟩
      cases hl2 : klt key (p.getD (n - 1) 0) (p.getD n 0)
      · dsimp only; rw [if_neg Bool.false_ne_true]
        have hl2' : ¬ Kp key p (n - 1) < Kp key p n := of_decide_eq_false hl2
        have heq : Kp key p n = Kp key p (n - 1) := ll_eq hl' hl2'
        refine desc_ok hN f p (n + 1) (q + 1) hp (by omega) (by omega) (hs.succ h1 hl2') (by omega) (fun i a b => ?_) fun p' m q' a b c => h p' m q' a (by omega) (by omega)
        show Kp key p i = Kp key p n
        by_cases hi : i = n
        · subst hi; rfl
        · rw [heq]; exact he i (by omega) (by omega)
      · dsimp only; rw [if_pos rfl]
        exact h p n q hp (Nat.le_refl _) (by omega) hs hq he
    · dsimp only; rw [if_pos rfl]
      have hl' : Kp key p n < Kp key p (n - 1) := of_decide_eq_true hl
      have hs2 : NTo key p (n + 1) := hs.succ h1 (ll_asymm hl')
      split
      · have hk : ∀ k, Kp key (kas_rev p (n - (q + 1)) n) k = Kp key p k := Kp_rev_eq (by omega) he
        refine desc_ok hN f _ (n + 1) 0 (rev_perm hp _ _) (by omega) (by omega) (fun i j a b => by rw [hk, hk]; exact hs2 i j a b) (by omega) (fun i a b => ?_) fun p' m q' a b c => h p' m q' a (by omega) (by omega)
        have : i = n := by omega
        subst this; rfl
      · refine desc_ok hN f p (n + 1) 0 hp (by omega) (by omega) hs2 (by omega) (fun i a b => ?_) fun p' m q' a b c => h p' m q' a (by omega) (by omega)
        have : i = n := by omega
        subst this; rfl
theorem rev_sorts {n : Nat} (hn : n ≤ p.size) (h : NTo key p n) : STo key (kas_rev p 0 n) n := by
  intro i j hij hj
  rw [Kp_rev hn, Kp_rev hn, if_pos ⟨Nat.zero_le _, hj⟩, if_pos ⟨Nat.zero_le _, by omega⟩]
  exact h _ _ (by omega) (by omega)
theorem tail3_ok (hp : PermR N p) (hN : 0 < N) {n : Nat} (h1 : 1 ≤ n) (hn : n ≤ N) (hs : NTo key p n) {Q : Nat × Array Nat → Prop} (h : ∀ m p', PermR N p' → 1 ≤ m → m ≤ N → STo key p' m → Q (m, p')) : KH (klt key) (VN N) (kas_tail3 n N p) Q := by
  unfold kas_tail3
  have hp' := rev_perm hp 0 n
  refine KH_bind (asc_ok hp' hN (N - n) n h1 (rev_sorts (by rw [hp.size]; exact hn) hs) fun m a b c => ?_)
  exact h m _ hp' (by omega) (by omega) c
theorem descPart_ok (hp : PermR N p) (hN : 0 < N) {n : Nat} (h1 : 1 ≤ n) (hn : n + 1 ≤ N) (hs : NTo key p (n + 1)) {Q : Nat × Array Nat → Prop} (h : ∀ m p', PermR N p' → 1 ≤ m → m ≤ N → STo key p' m → Q (m, p')) : KH (klt key) (VN N) (kas_descPart n N p) Q := by
  unfold kas_descPart
  refine KH_bind (desc_ok hN _ p (n + 1) 0 hp (by omega) (by omega) hs (by omega) (fun i a b => by rw [show i = n + 1 - 1 by omega]) fun p' m q' hp' a b hs' hq' he' => ?_)
  have hsz := hp'.size
  split
  · have hk : ∀ k, Kp key (kas_rev p' (m - (q' + 1)) m) k = Kp key p' k := Kp_rev_eq (by omega) he'
    exact tail3_ok (n := m) (rev_perm hp' _ _) hN (by omega) (by omega) (fun i j a b => by rw [hk, hk]; exact hs' i j a b) h
  · exact tail3_ok (n := m) hp' hN (by omega) (by omega) hs' h
/-- as asc_ok, with what ends the run -/
theorem asc_ok2 (hp : PermR N p) (hN : 0 < N) {Q : Nat → Prop} : ∀ (f n : Nat), 1 ≤ n → STo key p n → (∀ m, n ≤ m → m ≤ n + f → STo key p m → (m = n + f ∨ Kp key p m < Kp key p (m - 1)) → Q m) → KH (klt key) (VN N) (kas_asc p f n) Q
  | 0, n, _, hs, h => h n (Nat.le_refl _) (Nat.le_refl _) hs (.inl rfl)
  | f + 1, n, h1, hs, h => by
    refine ⟨hp.v hN _, hp.v hN _, ?_⟩
    cases hl : klt key (p.getD n 0) (p.getD (n - 1) 0)
    · dsimp only; rw [if_neg Bool.false_ne_true]
      have hl' : ¬ Kp key p n < Kp key p (n - 1) := of_decide_eq_false hl
      exact asc_ok2 hp hN f (n + 1) (by omega) (hs.succ h1 hl') fun m a b c d => h m (by omega) (by omega) c (d.imp (fun e => by omega) id)
    · dsimp only; rw [if_pos rfl]
      exact h n (Nat.le_refl _) (by omega) hs (.inr (of_decide_eq_true hl))
theorem count_ok (hp : PermR N p) (hN : 0 < N) {Q : Nat × Array Nat → Prop} (h : ∀ m p', PermR N p' → 1 ≤ m → m ≤ N → STo key p' m → Q (m, p')) : KH (klt key) (VN N) (kas_count N p) Q := by
  unfold kas_count
  have hsz := hp.size
  have s1 : STo key p 1 := fun i j a b => by
    have : i = j := by omega
    subst this; exact List.lt_irrefl _
  refine KH_bind (asc_ok2 hp hN (N - 1) 1 (Nat.le_refl _) s1 fun n a b hs hend => ?_)
  by_cases e : (n == N) = true
  · rw [if_pos e]
    exact h n p hp a (by omega) hs
  · rw [if_neg e]
    have hne : n ≠ N := by simpa using e
    have hl : Kp key p n < Kp key p (n - 1) := by
      rcases hend with q | q
      · omega
      · exact q
    by_cases h2 : n > 1
    · rw [if_pos h2]
      refine ⟨hp.v hN _, hp.v hN _, ?_⟩
      cases hc : klt key (p.getD 0 0) (p.getD (n - 1) 0)
      · dsimp only; rw [if_neg Bool.false_ne_true]
        have hc' : ¬ Kp key p 0 < Kp key p (n - 1) := of_decide_eq_false hc
        have heq : ∀ k, 0 ≤ k → k < n → Kp key p k = Kp key p (n - 1) := fun k _ hk => by
          have q1 := hs 0 k (Nat.zero_le _) hk
          have q2 := hs k (n - 1) (by omega) (by omega)
          exact ll_eq (ll_trans hc' q1) q2
        have hk : ∀ k, Kp key (kas_rev p 0 n) k = Kp key p k := Kp_rev_eq (by omega) heq
        refine descPart_ok (rev_perm hp _ _) hN a (by omega) ?_ h
        have hn0 : NTo key (kas_rev p 0 n) n := fun i j x y => by
          rw [hk, hk, heq i (Nat.zero_le _) (by omega), heq j (Nat.zero_le _) y]; exact List.lt_irrefl _
        refine hn0.succ a ?_
        rw [hk, hk]
        exact ll_asymm hl
      · dsimp only; rw [if_pos rfl]
        exact h n p hp a (by omega) hs
    · rw [if_neg h2]
      have e1 : n = 1 := by omega
      subst e1
      refine descPart_ok hp hN (Nat.le_refl _) (by omega) ?_ h
      have hn0 : NTo key p 1 := fun i j x y => by
        have : i = j := by omega
        subst this; exact List.lt_irrefl _
      exact hn0.succ (Nat.le_refl _) (ll_asymm hl)
theorem place_ok (hp : PermR N p) (hN : 0 < N) {k : Nat} (hs : STo key p k) {Q : Nat → Prop} : ∀ (f l r : Nat), l ≤ r → r ≤ k → r - l ≤ f → (∀ j, j < l → ¬ Kp key p k < Kp key p j) → (∀ j, r ≤ j → j < k → Kp key p k < Kp key p j) →
    (∀ l, l ≤ k → (∀ j, j < l → ¬ Kp key p k < Kp key p j) → (∀ j, l ≤ j → j < k → Kp key p k < Kp key p j) → Q l) → KH (klt key) (VN N) (kas_place p k f l r) Q
  | 0, l, r, h1, h2, h3, a, b, h => by
    have : l = r := by omega
    subst this
    exact h l h2 a b
  | f + 1, l, r, h1, h2, h3, a, b, h => by
    unfold kas_place
    by_cases hlr : l ≥ r
    · rw [if_pos hlr]
      have : l = r := by omega
      subst this
      exact h l h2 a b
    · rw [if_neg hlr]
      refine ⟨hp.v hN _, hp.v hN _, ?_⟩
      have m1 : l ≤ (l + r) / 2 := by omega
      have m2 : (l + r) / 2 < r := by omega
      generalize (l + r) / 2 = q at *
      cases hc : klt key (p.getD k 0) (p.getD q 0)
      · dsimp only; rw [if_neg Bool.false_ne_true]
        have hc' : ¬ Kp key p k < Kp key p q := of_decide_eq_false hc
        refine place_ok hp hN hs f (q + 1) r (by omega) h2 (by omega) (fun j hj => ?_) b h
        exact ll_trans (hs j q (by omega) (by omega)) hc'
      · dsimp only; rw [if_pos rfl]
        have hc' : Kp key p k < Kp key p q := of_decide_eq_true hc
        refine place_ok hp hN hs f l q m1 (by omega) (by omega) a (fun j hj hjk => ?_) h
        exact Classical.byContradiction fun z => hs q j hj hjk (List.lt_of_le_of_lt (List.not_lt.mp z) hc')
theorem bubble_sorts {k l : Nat} (hk : k < p.size) (hl : l ≤ k) (hs : STo key p k) (a : ∀ j, j < l → ¬ Kp key p k < Kp key p j) (b : ∀ j, l ≤ j → j < k → Kp key p k < Kp key p j) : STo key (bubble p k (k - l)) (k + 1) := by
  intro i j hij hj
  have e : k - (k - l) = l := by omega
  rw [Kp_bubble hk (by omega), Kp_bubble hk (by omega), e]
  by_cases hi1 : i = l
  · rw [if_pos hi1]
    by_cases hj1 : j = l
    · rw [if_pos hj1]; exact List.lt_irrefl _
    · rw [if_neg hj1, if_pos (by omega)]
      exact ll_asymm (b (j - 1) (by omega) (by omega))
  · rw [if_neg hi1]
    by_cases hj1 : j = l
    · rw [if_pos hj1, if_neg (by omega)]
      exact a i (by omega)
    · rw [if_neg hj1]
      by_cases hi2 : l < i ∧ i ≤ k
      · rw [if_pos hi2, if_pos (by omega)]
        exact hs _ _ (by omega) (by omega)
      · rw [if_neg hi2]
        by_cases hj2 : l < j ∧ j ≤ k
        · rw [if_pos hj2]
          exact hs _ _ (by omega) (by omega)
        · rw [if_neg hj2]
          exact hs _ _ (by omega) (by omega)
theorem bin_ok (hN : 0 < N) {Q : Array Nat → Prop} (h : ∀ p', PermR N p' → STo key p' N → Q p') : ∀ (f : Nat) (p : Array Nat) (k : Nat), PermR N p → k + f = N → STo key p k → KH (klt key) (VN N) (kas_bin f p k) Q
  | 0, p, k, hp, hk, hs => by
    have : k = N := by omega
    subst this
    exact h p hp hs
  | f + 1, p, k, hp, hk, hs => by
    unfold kas_bin
    refine KH_bind (place_ok hp hN hs k 0 k (Nat.zero_le _) (Nat.le_refl _) (by omega) (fun j hj => by omega) (fun j a b => by omega) fun l hl a b => ?_)
    exact bin_ok hN h f _ (k + 1) ((bubble_perm _ _ _).trans hp) (by omega) (bubble_sorts (by rw [hp.size]; omega) hl hs a b)
theorem sort_ok (hN : 0 < N) {Q : Array Nat → Prop} (h : ∀ p', PermR N p' → STo key p' N → Q p') : KH (klt key) (VN N) (kas_sort N) Q := by
  unfold kas_sort
  refine KH_bind (count_ok (Array.Perm.refl _) hN fun m p' hp a b hs => ?_)
  show KH _ _ (if m < N then kas_bin (N - max m 1) p' (max m 1) else KasT.ret p') Q
  have e : max m 1 = m := by omega
  rw [e]
  split
  · exact bin_ok hN h _ p' m hp (by omega) hs
  · have : m = N := by omega
    subst this
    exact h p' hp hs
end
end Mine
end

section
open PySem PySem.W PyProof.Rows PySem.Calls PySem.Spec
set_option maxHeartbeats 8000000
namespace Mine
theorem fillBs : PySem.Challenge.rw_ph0096_01 = PySem.Challenge.rw_ph0096_01 ∧ hd.heap_39 = hd.heap_39 := by k_fill; exact ⟨rfl, rfl⟩
theorem isL {h₀ h : Heap} {L l : Addr} {news : List (Addr × Obj)} {vs : List Value} {n : Nat} (N : News h₀ L h news) (hl : (l, PySem.W.listOf vs.toArray n) ∈ news) : h.IsList l vs.toArray := ⟨_, (N _ hl).1, rfl, n, rfl⟩
/-- the data of a def of the text -/
noncomputable def fdAt (P : Params) (f : Addr) : FuncData := match (hd.heap_39 P).lookup f with
  | some ⟨_, _, .func fd, _⟩ => fd
  | _ => default
theorem fits_nat {r : Nat} (h : r ≤ 1000) : Builtin.List.listFitsIndex (r : Int) = true := by unfold Builtin.List.listFitsIndex; simp; omega
theorem ins_eq {vs : List Value} {r : Nat} {v : Value} (h : r ≤ vs.length) : kl_ins vs.toArray.toList (r : Int) v = vs.take r ++ v :: vs.drop r := by
  unfold kl_ins
  rw [if_neg (by omega), List.toList_toArray]
  rw [Int.toNat_natCast, Nat.min_eq_left h]
theorem strs_ins {vs : List Value} {xs : List Str} (hv : StrsAre vs xs) (r : Nat) (x : Str) (t : Tok) : StrsAre (vs.take r ++ .str x t :: vs.drop r) (insAt xs r x) :=
  StrsAre.append' (StrsAre.take' hv r) (.cons x t (StrsAre.drop' hv r))
theorem b39_4 {w : World} {s : Shared} {l : Addr} {x : Str} {tx t0 : Tok} (X : (hd.heap_39 w.params).In s.heap) :
    BindsTo s (fdAt w.params 39) ⟨[.ref l, .str x tx, .int 0 t0, .none], []⟩ [("a", .ref l), ("x", .str x tx), ("lo", .int 0 t0), ("hi", .none), ("key", .none)] := kp_binds X (fun S => by kernel_rfl)
theorem b39_2 {w : World} {s : Shared} {l : Addr} {x : Str} {tx : Tok} (X : (hd.heap_39 w.params).In s.heap) :
    BindsTo s (fdAt w.params 39) ⟨[.ref l, .str x tx], []⟩ [("a", .ref l), ("x", .str x tx), ("lo", .int 0 213), ("hi", .none), ("key", .none)] := kp_binds X (fun S => by kernel_rfl)
theorem b57_4 {w : World} {s : Shared} {l : Addr} {x : Str} {tx t0 : Tok} (X : (hd.heap_39 w.params).In s.heap) :
    BindsTo s (fdAt w.params 57) ⟨[.ref l, .str x tx, .int 0 t0, .none], []⟩ [("a", .ref l), ("x", .str x tx), ("lo", .int 0 t0), ("hi", .none), ("key", .none)] := kp_binds X (fun S => by kernel_rfl)
theorem b57_2 {w : World} {s : Shared} {l : Addr} {x : Str} {tx : Tok} (X : (hd.heap_39 w.params).In s.heap) :
    BindsTo s (fdAt w.params 57) ⟨[.ref l, .str x tx], []⟩ [("a", .ref l), ("x", .str x tx), ("lo", .int 0 240), ("hi", .none), ("key", .none)] := kp_binds X (fun S => by kernel_rfl)
local macro_rules | `(tactic| walk_at "eval Name") => `(tactic| (k_here; k_dflt (refine' nameX_L ?F ?v ?_ ?a ?b; (case F => k_asm); (case a => rfl); (case b => rfl); (case v => assumption); k_whole)))
local macro_rules | `(tactic| walk_at "loadName") => `(tactic| (k_here; k_dflt (refine' PyProof.Rows.ldn ?F ?v ?_ ?a ?b; (case F => k_asm); (case a => rfl); (case b => rfl); (case v => assumption); k_whole)))
local macro_rules | `(tactic| walk_at "m.no") => `(tactic| (
  (fail_if_success (with_reducible show wpAny _ _ (exec (Stmt.While _ _ _ _) _) _ _ _)); (fail_if_success (with_reducible show wpAny _ _ (exec (Stmt.For _ _ _ _ _) _) _ _ _))
  (fail_if_success (with_reducible show wpAny _ _ (call (Value.ref _) _ _) _ _ _)); (fail_if_success (with_reducible show wpAny _ _ (eval (Expr.ListComp _ _ _ _) _) _ _ _))
  (fail_if_success (with_reducible show wpAny _ _ (eval (Expr.GeneratorExp _ _ _ _) _) _ _ _)); (fail_if_success (with_reducible show wpAny _ _ (exec (Stmt.Assign _ (Expr.ListComp _ _ _ _) _) _) _ _ _))
  (fail_if_success (with_reducible show wpAny _ _ (subscriptTail _ _ (Value.ref _) _) _ _ _)); (fail_if_success (with_reducible show wpAny _ _ (compareOp _ (Value.ref _) (Value.ref _)) _ _ _))
  (fail_if_success (with_reducible show wpAny _ _ (call (Value.builtin "str.split") _ _) _ _ _)); (fail_if_success (with_reducible show wpAny _ _ (call (Value.builtin "str.join") _ _) _ _ _)); (fail_if_success (with_reducible show wpAny _ _ (call (Value.builtin "sorted") _ _) _ _ _)); (fail_if_success (with_reducible show wpAny _ _ (call (Value.type "filter") _ _) _ _ _))))
local macro_rules | `(tactic| walk_at "m.go") => `(tactic| repeat' ((walk_at "m.no"); (first | (k_unfold; (try dsimp only)) | walk1 | dsimp only)))
local macro_rules | `(tactic| walk_at "m.enter") => `(tactic| (
  (case kA => exact rfl); (case kF => exact rfl); (case kK => assumption)
  (case k1 => k_asm); (case k2 => k_asm); (case k3 => k_asm); (case k4 => k_asm); (case k5 => k_asm)
  (case k6 => k_is); (case k7 => k_is); (case k8 => ktr_room)
  (case c5 => decide); (case kB => exact locs rfl); (case c2 => exact rfl); (case c3 => exact rfl); (case c4 => exact rfl)))
theorem bisect_right_gen (w : World) {p : Program} {loose : List Str} {mean : ExcName → Option Value} {mg mb : Str → Option Value}
  {dp un : Nat} {gd : Option (List Code)} {cn : Str} {cs : Scope} {a : Addr} {ccd : Value} {cl : List (Str × Addr)} {outer : List Env} {A₀ : Around} {base h₀ : Heap} {L : Addr} {m : Str → Option Value} {s : Shared} {Q E : Value → Shared → Prop} {news : List (Addr × Obj)}
  {l : Addr} {xs : List Str} {vs : List Value} {n : Nat} {x : Str} {tx t0 : Tok} {args : List Value}
  (B : Below A₀ base outer h₀) (F : Fr h₀ L s.heap m) (X : (hd.heap_39 w.params).In h₀) (N : News h₀ L s.heap news) (T : Top p loose mean mg mb h₀) (hk : cs.kind = .function)
  (hl : (l, PySem.W.listOf vs.toArray n) ∈ news) (hv : StrsAre vs xs) (hsz : vs.length ≤ 1000) (hs : Srt xs)
  (hb : BindsTo s (fdAt w.params 39) ⟨args, []⟩ [("a", .ref l), ("x", .str x tx), ("lo", .int 0 t0), ("hi", .none), ("key", .none)])
  (hd1 : dp + 1 < recursionLimit) (hu : un + 8 < cLine)
  (ret : ∀ t h' tk', Fr h₀ L h' m → News h₀ L h' news → Q (.int (cntR xs x : Nat) t) { s with heap := h', toks := tk' }) :
  wpAny (model Challenge.rw_ph0096_01.row.prog w) (ktrTop dp un gd cn cs L a ccd cl outer) (call (.ref 39) args) Q E s := by
  refine wpAny_call ?_
  refine' code_def (binds := [("a", .ref l), ("x", .str x tx), ("lo", .int 0 t0), ("hi", .none), ("key", .none)]) ?k1 ?k2 ?k3 ?k4 ?k5 ?kA ?kF ?kK ?k6 ?k7 ?k8 ?k9 ?kB ?_ ?c2 ?c3 ?c4 ?c5
  walk_at "m.enter"
  case k9 => exact hb
  intro g' L' h' FG' F' N' B' X' T'
  dsimp only
  k_fold
  clear FG' F N hb
  have hL := isL N' hl
  walk_at "m.go"
  refine PyProof.Rows.len_list hL (by simp; omega) ?_
  walk_at "m.go"
  have hlen : vs.length = xs.length := StrsAre.length (by assumption)
  (rename Fr _ _ _ _ => F1); (rename News _ _ _ _ => N1)
  have hhi : ∀ t, some (Value.int (vs.toArray.size : Int) t) = some (Value.int (xs.length : Int) t) := fun t => by simp [hlen]
  refine While_inv2 (fun n m₁ news₁ => news₁ = news ∧ ∃ (lo hi : Nat) (t1 t2 : Tok), lo ≤ cntR xs x ∧ cntR xs x ≤ hi ∧ hi ≤ xs.length ∧ n = hi - lo ∧ m₁ "lo" = some (.int lo t1) ∧ m₁ "hi" = some (.int hi t2) ∧ m₁ "a" = some (.ref l) ∧ m₁ "x" = some (.str x tx)) F1 N1 ⟨rfl, 0, xs.length, t0, _, Nat.zero_le _, cntR_len, Nat.le_refl _, rfl, rfl, hhi _ , rfl, rfl⟩ ?_
  clear F1 N1 hL
  rintro n m₁ news₁ h₁ tk₁ F1 N1 ⟨rfl, lo, hi, t1, t2, i1, i2, i3, rfl, e1, e2, e3, e4⟩
  walk_at "m.go"
  · rename_i _ hlt _ F2 N2
    have hm : ((lo : Int) + hi).fdiv 2 = ((lo + hi) / 2 : Nat) := by rw [Int.fdiv_eq_ediv_of_nonneg _ (by omega)]; omega
    generalize hq : (lo + hi) / 2 = q at *
    have hq1 : lo ≤ q := by omega
    have hq2 : q < hi := by omega
    obtain ⟨y, hy⟩ : ∃ y, xs[q]? = some y := ⟨xs[q]'(by omega), List.getElem?_eq_getElem (by omega)⟩
    obtain ⟨ty, hvy⟩ := StrsAre.get hv q y hy
    refine item_litK (isL N2 hl) (v := .str y ty) (by rw [hm]; omega) (by rw [hm]; omega) (by rw [hm]; exact hvy) ?_
    refine PyProof.Rows.lt_str ?_
    walk_at "m.go"
    · rename_i hxy _ F3 N3
      have := cntR_le hs hy hxy
      exact ⟨_, _, _, news₁, q - lo, rfl, F3, N3, by omega, rfl, lo, q, _, _, i1, this, by omega, rfl, e1, by show some (Value.int _ _) = _; rw [hm], e3, e4⟩
    · rename_i hxy _ F3 N3
      have := lt_cntR hs hy hxy
      exact ⟨_, _, _, news₁, hi - (q + 1), rfl, F3, N3, by omega, rfl, q + 1, hi, _, _, this, i2, i3, rfl, by show some (Value.int _ _) = _; rw [hm]; rfl, e2, e3, e4⟩
  · have e : cntR xs x = lo := by omega
    (rename News _ _ _ _ => kN); (rename Fr _ _ _ _ => kF)
    rw [← e]
    exact ret _ _ _ kF kN
theorem bisect_left_gen (w : World) {p : Program} {loose : List Str} {mean : ExcName → Option Value} {mg mb : Str → Option Value}
  {dp un : Nat} {gd : Option (List Code)} {cn : Str} {cs : Scope} {a : Addr} {ccd : Value} {cl : List (Str × Addr)} {outer : List Env} {A₀ : Around} {base h₀ : Heap} {L : Addr} {m : Str → Option Value} {s : Shared} {Q E : Value → Shared → Prop} {news : List (Addr × Obj)}
  {l : Addr} {xs : List Str} {vs : List Value} {n : Nat} {x : Str} {tx t0 : Tok} {args : List Value}
  (B : Below A₀ base outer h₀) (F : Fr h₀ L s.heap m) (X : (hd.heap_39 w.params).In h₀) (N : News h₀ L s.heap news) (T : Top p loose mean mg mb h₀) (hk : cs.kind = .function)
  (hl : (l, PySem.W.listOf vs.toArray n) ∈ news) (hv : StrsAre vs xs) (hsz : vs.length ≤ 1000) (hs : Srt xs)
  (hb : BindsTo s (fdAt w.params 57) ⟨args, []⟩ [("a", .ref l), ("x", .str x tx), ("lo", .int 0 t0), ("hi", .none), ("key", .none)])
  (hd1 : dp + 1 < recursionLimit) (hu : un + 8 < cLine)
  (ret : ∀ t h' tk', Fr h₀ L h' m → News h₀ L h' news → Q (.int (cntL xs x : Nat) t) { s with heap := h', toks := tk' }) :
  wpAny (model Challenge.rw_ph0096_01.row.prog w) (ktrTop dp un gd cn cs L a ccd cl outer) (call (.ref 57) args) Q E s := by
  refine wpAny_call ?_
  refine' code_def (binds := [("a", .ref l), ("x", .str x tx), ("lo", .int 0 t0), ("hi", .none), ("key", .none)]) ?k1 ?k2 ?k3 ?k4 ?k5 ?kA ?kF ?kK ?k6 ?k7 ?k8 ?k9 ?kB ?_ ?c2 ?c3 ?c4 ?c5
  walk_at "m.enter"
  case k9 => exact hb
  intro g' L' h' FG' F' N' B' X' T'
  dsimp only
  k_fold
  clear FG' F N hb
  have hL := isL N' hl
  walk_at "m.go"
  refine PyProof.Rows.len_list hL (by simp; omega) ?_
  walk_at "m.go"
  have hlen : vs.length = xs.length := StrsAre.length (by assumption)
  (rename Fr _ _ _ _ => F1); (rename News _ _ _ _ => N1)
  have hhi : ∀ t, some (Value.int (vs.toArray.size : Int) t) = some (Value.int (xs.length : Int) t) := fun t => by simp [hlen]
  refine While_inv2 (fun n m₁ news₁ => news₁ = news ∧ ∃ (lo hi : Nat) (t1 t2 : Tok), lo ≤ cntL xs x ∧ cntL xs x ≤ hi ∧ hi ≤ xs.length ∧ n = hi - lo ∧ m₁ "lo" = some (.int lo t1) ∧ m₁ "hi" = some (.int hi t2) ∧ m₁ "a" = some (.ref l) ∧ m₁ "x" = some (.str x tx)) F1 N1 ⟨rfl, 0, xs.length, t0, _, Nat.zero_le _, cntL_len, Nat.le_refl _, rfl, rfl, hhi _ , rfl, rfl⟩ ?_
  clear F1 N1 hL
  rintro n m₁ news₁ h₁ tk₁ F1 N1 ⟨rfl, lo, hi, t1, t2, i1, i2, i3, rfl, e1, e2, e3, e4⟩
  walk_at "m.go"
  · rename_i _ hlt _ F2 N2
    have hm : ((lo : Int) + hi).fdiv 2 = ((lo + hi) / 2 : Nat) := by rw [Int.fdiv_eq_ediv_of_nonneg _ (by omega)]; omega
    generalize hq : (lo + hi) / 2 = q at *
    have hq1 : lo ≤ q := by omega
    have hq2 : q < hi := by omega
    obtain ⟨y, hy⟩ : ∃ y, xs[q]? = some y := ⟨xs[q]'(by omega), List.getElem?_eq_getElem (by omega)⟩
    obtain ⟨ty, hvy⟩ := StrsAre.get hv q y hy
    refine item_litK (isL N2 hl) (v := .str y ty) (by rw [hm]; omega) (by rw [hm]; omega) (by rw [hm]; exact hvy) ?_
    walk_at "m.go"
    skip
    · rename_i hxy _ F3 N3
      have := lt_cntL hs hy hxy
      exact ⟨_, _, _, news₁, hi - (q + 1), rfl, F3, N3, by omega, rfl, q + 1, hi, _, _, this, i2, i3, rfl, by show some (Value.int _ _) = _; rw [hm]; rfl, e2, e3, e4⟩
    · rename_i hxy _ F3 N3
      have := cntL_le hs hy hxy
      exact ⟨_, _, _, news₁, q - lo, rfl, F3, N3, by omega, rfl, lo, q, _, _, i1, this, by omega, rfl, e1, by show some (Value.int _ _) = _; rw [hm], e3, e4⟩
  · have e : cntL xs x = lo := by omega
    (rename News _ _ _ _ => kN); (rename Fr _ _ _ _ => kF)
    rw [← e]
    exact ret _ _ _ kF kN
theorem insort_right_spec (w : World) {p : Program} {loose : List Str} {mean : ExcName → Option Value} {mg mb : Str → Option Value}
  {dp un : Nat} {gd : Option (List Code)} {cn : Str} {cs : Scope} {a : Addr} {ccd : Value} {cl : List (Str × Addr)} {outer : List Env} {A₀ : Around} {base h₀ : Heap} {L : Addr} {m : Str → Option Value} {s : Shared} {Q E : Value → Shared → Prop} {news : List (Addr × Obj)}
  {l : Addr} {xs : List Str} {vs : List Value} {n : Nat} {x : Str} {tx : Tok}
  (B : Below A₀ base outer h₀) (F : Fr h₀ L s.heap m) (X : (hd.heap_39 w.params).In h₀) (N : News h₀ L s.heap ((l, PySem.W.listOf vs.toArray n) :: news)) (T : Top p loose mean mg mb h₀) (hk : cs.kind = .function)
  (hne : ∀ p ∈ news, p.1 ≠ l) (hv : StrsAre vs xs) (hsz : vs.length ≤ 999) (hs : Srt xs)
  (hd1 : dp + 2 < recursionLimit) (hu : un + 16 < cLine)
  (ret : ∀ ws h' tk', StrsAre ws (insAt xs (cntR xs x) x) → Fr h₀ L h' m → News h₀ L h' ((l, PySem.W.listOf ws.toArray (n + 1)) :: news) → Q .none { s with heap := h', toks := tk' }) :
  wpAny (model Challenge.rw_ph0096_01.row.prog w) (ktrTop dp un gd cn cs L a ccd cl outer) (call (.ref 30) [.ref l, .str x tx]) Q E s := by
  refine wpAny_call ?_
  refine' code_def (binds := [("a", .ref l), ("x", .str x tx), ("lo", .int 0 200), ("hi", .none), ("key", .none)]) ?k1 ?k2 ?k3 ?k4 ?k5 ?kA ?kF ?kK ?k6 ?k7 ?k8 ?k9 ?kB ?_ ?c2 ?c3 ?c4 ?c5
  walk_at "m.enter"
  case k9 => exact kp_binds (by k_in) (fun _ => rfl)
  intro g' L' h' FG' F' N' B' X' T'
  dsimp only
  k_fold
  clear FG' F N
  walk_at "m.go"
  refine bisect_right_gen w (n := n) (vs := vs) (by k_asm) (by k_asm) (by k_asm) (by k_asm) (by k_asm) rfl (.head _) hv (by omega) hs (b39_4 (by k_in)) (by ktr_room) (by ktr_units) ?_
  intro t h1 tk1 F1 N1
  dsimp only
  walk_at "m.go"
  (rename Fr _ _ _ _ => F2); (rename News _ _ _ _ => N2)
  refine kl_insert F2 N2 (fits_nat (by have := cntR_len (xs := xs) (x := x); have := StrsAre.length hv; omega)) (ins_eq (by have := cntR_len (xs := xs) (x := x); have := StrsAre.length hv; omega)) (.head hne) (by show vs.toArray.toList.length ≤ sizeLine; rw [List.toList_toArray]; unfold sizeLine; omega) ?_
  intro h2 F3 N3
  dsimp only
  clear F2 N2
  walk_at "m.go"
  (rename Fr _ _ _ _ => F4); (rename News _ _ _ _ => N4)
  exact ret _ _ _ (strs_ins hv _ _ _) F4 N4
theorem insort_left_spec (w : World) {p : Program} {loose : List Str} {mean : ExcName → Option Value} {mg mb : Str → Option Value}
  {dp un : Nat} {gd : Option (List Code)} {cn : Str} {cs : Scope} {a : Addr} {ccd : Value} {cl : List (Str × Addr)} {outer : List Env} {A₀ : Around} {base h₀ : Heap} {L : Addr} {m : Str → Option Value} {s : Shared} {Q E : Value → Shared → Prop} {news : List (Addr × Obj)}
  {l : Addr} {xs : List Str} {vs : List Value} {n : Nat} {x : Str} {tx : Tok}
  (B : Below A₀ base outer h₀) (F : Fr h₀ L s.heap m) (X : (hd.heap_39 w.params).In h₀) (N : News h₀ L s.heap ((l, PySem.W.listOf vs.toArray n) :: news)) (T : Top p loose mean mg mb h₀) (hk : cs.kind = .function)
  (hne : ∀ p ∈ news, p.1 ≠ l) (hv : StrsAre vs xs) (hsz : vs.length ≤ 999) (hs : Srt xs)
  (hd1 : dp + 2 < recursionLimit) (hu : un + 16 < cLine)
  (ret : ∀ ws h' tk', StrsAre ws (insAt xs (cntL xs x) x) → Fr h₀ L h' m → News h₀ L h' ((l, PySem.W.listOf ws.toArray (n + 1)) :: news) → Q .none { s with heap := h', toks := tk' }) :
  wpAny (model Challenge.rw_ph0096_01.row.prog w) (ktrTop dp un gd cn cs L a ccd cl outer) (call (.ref 48) [.ref l, .str x tx]) Q E s := by
  refine wpAny_call ?_
  refine' code_def (binds := [("a", .ref l), ("x", .str x tx), ("lo", .int 0 227), ("hi", .none), ("key", .none)]) ?k1 ?k2 ?k3 ?k4 ?k5 ?kA ?kF ?kK ?k6 ?k7 ?k8 ?k9 ?kB ?_ ?c2 ?c3 ?c4 ?c5
  walk_at "m.enter"
  case k9 => exact kp_binds (by k_in) (fun _ => rfl)
  intro g' L' h' FG' F' N' B' X' T'
  dsimp only
  k_fold
  clear FG' F N
  walk_at "m.go"
  refine bisect_left_gen w (n := n) (vs := vs) (by k_asm) (by k_asm) (by k_asm) (by k_asm) (by k_asm) rfl (.head _) hv (by omega) hs (b57_4 (by k_in)) (by ktr_room) (by ktr_units) ?_
  intro t h1 tk1 F1 N1
  dsimp only
  walk_at "m.go"
  (rename Fr _ _ _ _ => F2); (rename News _ _ _ _ => N2)
  refine kl_insert F2 N2 (fits_nat (by have := cntL_len (xs := xs) (x := x); have := StrsAre.length hv; omega)) (ins_eq (by have := cntL_len (xs := xs) (x := x); have := StrsAre.length hv; omega)) (.head hne) (by show vs.toArray.toList.length ≤ sizeLine; rw [List.toList_toArray]; unfold sizeLine; omega) ?_
  intro h2 F3 N3
  dsimp only
  clear F2 N2
  walk_at "m.go"
  (rename Fr _ _ _ _ => F4); (rename News _ _ _ _ => N4)
  exact ret _ _ _ (strs_ins hv _ _ _) F4 N4
end Mine
end

section
open PySem PySem.W PyProof.Rows PySem.Calls PySem.Spec
namespace Mine
open PySem.StrLaws Builtin Builtin.Str
/-! what _platform reckons -/
def sq : List Nat → List Nat
  | [] => []
  | [c] => [c]
  | c :: d :: r => if c = 45 ∧ d = 45 then sq (d :: r) else c :: sq (d :: r)
def rdash (l : List Nat) : List Nat := (l.reverse.dropWhile (· == 45)).reverse
theorem ddash_is : Str.ofString "--" = ⟨#[45, 45]⟩ := by decide +kernel
abbrev dd (l : List Nat) : List Nat := rep [45, 45] [45] l
theorem dd_eq (x : Str) : (Txt.replace x (Str.ofString "--") (Str.ofString "-")).cps.toList = dd x.cps.toList := by
  rw [ddash_is, dash_is, replace_list (by decide)]
theorem dd_nil : dd [] = [] := rfl
theorem dd_one (c : Nat) : dd [c] = [c] := by
  unfold dd
  rw [rep_cons (by decide), if_neg (by intro q; have := congrArg List.length q; simp at this), rep_nil]
theorem dd_two (r : List Nat) : dd (45 :: 45 :: r) = 45 :: dd r := by
  unfold dd
  rw [rep_cons (by decide), if_pos (by simp)]
  rfl
theorem dd_ne {c d : Nat} (r : List Nat) (h : ¬ (c = 45 ∧ d = 45)) : dd (c :: d :: r) = c :: dd (d :: r) := by
  unfold dd
  rw [rep_cons (by decide), if_neg (by simpa using h)]
theorem dd_head (c : Nat) (r : List Nat) : ∃ t, dd (c :: r) = c :: t := by
  cases r with
  | nil => exact ⟨[], dd_one c⟩
  | cons d r =>
    by_cases h : c = 45 ∧ d = 45
    · obtain ⟨rfl, rfl⟩ := h; exact ⟨_, dd_two r⟩
    · exact ⟨_, dd_ne r h⟩
theorem sq_two (r : List Nat) : sq (45 :: 45 :: r) = sq (45 :: r) := by rw [sq, if_pos ⟨rfl, rfl⟩]
theorem sq_ne {c d : Nat} (r : List Nat) (h : ¬ (c = 45 ∧ d = 45)) : sq (c :: d :: r) = c :: sq (d :: r) := by rw [sq, if_neg h]
theorem sq_c {c : Nat} (r : List Nat) (h : c ≠ 45) : sq (c :: r) = c :: sq r := by
  cases r with
  | nil => rfl
  | cons d r => exact sq_ne r fun q => h q.1
theorem sq_dd : ∀ (n : Nat) (l : List Nat), l.length ≤ n → sq (dd l) = sq l ∧ (∀ c, sq (c :: dd l) = sq (c :: l))
  | _, [], _ => ⟨rfl, fun _ => rfl⟩
  | 0, _ :: _, h => by simp at h
  | n + 1, [e], _ => by rw [dd_one]; exact ⟨rfl, fun _ => rfl⟩
  | n + 1, a :: b :: r, h => by
    simp only [List.length_cons] at h
    by_cases q : a = 45 ∧ b = 45
    · obtain ⟨rfl, rfl⟩ := q
      have ih := sq_dd n r (by omega)
      rw [dd_two, sq_two, ih.2 45]
      refine ⟨rfl, fun c => ?_⟩
      by_cases hc : c = 45
      · subst hc; rw [sq_two, sq_two, sq_two, ih.2]
      · rw [sq_c _ hc, sq_c _ hc, sq_two, ih.2]
    · have ih := sq_dd n (b :: r) (by simp only [List.length_cons]; omega)
      rw [dd_ne r q]
      refine ⟨?_, fun c => ?_⟩
      · rw [ih.2]
      · by_cases hc : c = 45 ∧ a = 45
        · obtain ⟨rfl, rfl⟩ := hc; rw [sq_two, sq_two, ih.2]
        · rw [sq_ne _ hc, sq_ne _ hc, ih.2]
theorem dd_sq (x : Str) : sq (Txt.replace x (Str.ofString "--") (Str.ofString "-")).cps.toList = sq x.cps.toList := by
  rw [dd_eq]; exact (sq_dd _ _ (Nat.le_refl _)).1
theorem dd_len : ∀ (n : Nat) (l : List Nat), l.length ≤ n → (dd l).length < l.length ∨ (dd l = l ∧ sq l = l)
  | _, [], _ => .inr ⟨rfl, rfl⟩
  | 0, _ :: _, h => by simp at h
  | n + 1, [e], _ => .inr ⟨dd_one e, rfl⟩
  | n + 1, a :: b :: r, h => by
    simp only [List.length_cons] at h
    by_cases q : a = 45 ∧ b = 45
    · obtain ⟨rfl, rfl⟩ := q
      rw [dd_two]
      rcases dd_len n r (by omega) with h1 | ⟨h1, _⟩
      · left; simp only [List.length_cons]; omega
      · left; rw [h1]; simp only [List.length_cons]; omega
    · rw [dd_ne r q, sq_ne r q]
      rcases dd_len n (b :: r) (by simp only [List.length_cons]; omega) with h1 | ⟨h1, h2⟩
      · left; simp only [List.length_cons] at h1 ⊢; omega
      · right; rw [h1, h2]; exact ⟨rfl, rfl⟩
theorem dd_fix {x : Str} (h : Txt.replace x (Str.ofString "--") (Str.ofString "-") = x) : sq x.cps.toList = x.cps.toList := by
  have e := dd_eq x
  rw [h] at e
  rcases dd_len _ x.cps.toList (Nat.le_refl _) with h1 | ⟨_, h2⟩
  · rw [← e] at h1; omega
  · exact h2
theorem dd_lt {x : Str} (h : Txt.replace x (Str.ofString "--") (Str.ofString "-") ≠ x) : (Txt.replace x (Str.ofString "--") (Str.ofString "-")).length < x.length := by
  have e := dd_eq x
  rcases dd_len _ x.cps.toList (Nat.le_refl _) with h1 | ⟨h1, _⟩
  · rw [← e] at h1; exact h1
  · exact absurd (StrLaws.mk_of_toList (e.trans h1)) fun q => h (q.trans (StrLaws.mk_of_toList rfl).symm)
/-! the end -/
theorem slice_last {z : Str} (h : z.length ≠ 0) : (Txt.slice z none (some (-1))).cps.toList = z.cps.toList.dropLast := by
  have hl : z.cps.toList.length = z.length := by simp [Str.length]
  have e : Txt.slice z none (some (-1)) = sliceText z none (some (-1)) := rfl
  rw [e, sliceText_to_neg (by decide) (by omega)]
  have e2 : ((-1 : Int) + (z.length : Int)) = ((z.length - 1 : Nat) : Int) := by omega
  rw [List.dropLast_eq_take, hl]
  simp only [List.drop_zero]
  congr 1
  omega
theorem slice_last_lt {z : Str} (h : z.length ≠ 0) : (Txt.slice z none (some (-1))).length < z.length := by
  have e := congrArg List.length (slice_last h)
  have hl : z.cps.toList.length = z.length := by simp [Str.length]
  rw [List.length_dropLast, hl] at e
  have : (Txt.slice z none (some (-1))).cps.toList.length = (Txt.slice z none (some (-1))).length := by simp [Str.length]
  omega
theorem item_last {z : Str} (h : z.length ≠ 0) : ∃ c, z.cps.toList = z.cps.toList.dropLast ++ [c] ∧ Txt.item z (-1) = ⟨#[c]⟩ := by
  have hl : z.cps.toList.length = z.length := by simp [Str.length]
  have hn : z.cps.toList ≠ [] := fun q => h (by rw [← hl, q]; rfl)
  refine ⟨z.cps.toList.getLast hn, (List.dropLast_concat_getLast hn).symm, ?_⟩
  unfold Txt.item Txt.charAt
  rw [StrLaws.at_neg (by decide) (by omega) (n := z.cps.toList.getLast hn)]
  · rfl
  · have e : ((-1 : Int) + (z.length : Int)).toNat = z.cps.toList.length - 1 := by omega
    rw [e, ← Array.getElem?_toList, ← List.getLast?_eq_getElem?, List.getLast?_eq_some_getLast hn]
theorem rdash_yes {z : Str} (h : z.length ≠ 0) (hi : (Txt.item z (-1) == Str.ofString "-") = true) : rdash (Txt.slice z none (some (-1))).cps.toList = rdash z.cps.toList := by
  obtain ⟨c, e, e2⟩ := item_last h
  rw [slice_last h]
  have hc : c = 45 := by
    rw [e2, dash_is] at hi
    have := eq_of_beq hi
    injection this with this
    simpa using this
  subst hc
  conv => rhs; rw [e]
  unfold rdash
  simp
theorem rdash_no {z : Str} (h : z.length ≠ 0) (hi : (Txt.item z (-1) == Str.ofString "-") = false) : rdash z.cps.toList = z.cps.toList := by
  obtain ⟨c, e, e2⟩ := item_last h
  have hc : c ≠ 45 := by
    rintro rfl
    rw [e2, dash_is] at hi
    simp at hi
  rw [e]
  unfold rdash
  simp [hc]
theorem rdash_nil {z : Str} (h : z.length = 0) : rdash z.cps.toList = z.cps.toList := by
  have hl : z.cps.toList.length = z.length := by simp [Str.length]
  rw [List.eq_nil_of_length_eq_zero (hl.trans h)]
  rfl
/-! squeezed and cut, in one go -/
def nd : Bool → List Nat → List Nat
  | _, [] => []
  | p, c :: r => if c = 45 then nd true r else if p then 45 :: c :: nd false r else c :: nd false r
theorem rdash_c {c : Nat} (h : c ≠ 45) (l : List Nat) : rdash (c :: l) = c :: rdash l := by
  unfold rdash
  rw [List.reverse_cons, List.dropWhile_append]
  by_cases q : (l.reverse.dropWhile (· == 45)).isEmpty = true
  · rw [if_pos q]
    rw [List.isEmpty_iff.mp q]
    simp [h]
  · rw [if_neg q, List.reverse_append]; rfl
theorem rdash_dc {c : Nat} (h : c ≠ 45) (l : List Nat) : rdash (45 :: c :: l) = 45 :: c :: rdash l := by
  have e := rdash_c h l
  unfold rdash at e ⊢
  rw [List.reverse_cons (a := 45), List.dropWhile_append]
  have q : ((c :: l).reverse.dropWhile (· == 45)).isEmpty = false := by
    cases hq : ((c :: l).reverse.dropWhile (· == 45)) with
    | nil => rw [hq] at e; simp at e
    | cons => rfl
  rw [q]
  simp only [Bool.false_eq_true, if_false]
  rw [List.reverse_append, e]; rfl
theorem nd_is : ∀ l : List Nat, nd false l = rdash (sq l) ∧ nd true l = rdash (sq (45 :: l))
  | [] => ⟨rfl, by decide⟩
  | c :: r => by
    have ih := nd_is r
    by_cases h : c = 45
    · subst h
      rw [nd, if_pos rfl, nd, if_pos rfl, sq_two]
      exact ⟨ih.2, ih.2⟩
    · rw [nd, if_neg h, nd, if_neg h, sq_ne r (fun q => h q.2), sq_c r h, rdash_c h, rdash_dc h, ih.1]
      exact ⟨rfl, rfl⟩
/-! the whole of it -/
def rep1 (x : Str) : Str :=
  Txt.replace (Txt.replace (Txt.replace (Txt.replace (Txt.replace (Txt.replace (Txt.replace (Txt.replace (Txt.replace x (Str.ofString " ") (Str.ofString "_")) (Str.ofString "/") (Str.ofString "-")) (Str.ofString "\\") (Str.ofString "-")) (Str.ofString ":") (Str.ofString "-")) (Str.ofString ";") (Str.ofString "-")) (Str.ofString "\"") (Str.ofString "-")) (Str.ofString "(") (Str.ofString "-")) (Str.ofString ")") (Str.ofString "-")) (Str.ofString "unknown") (Str.ofString "")
def platT (xs : List Str) : Str := rep1 (Txt.join (Str.ofString "-") ((xs.filter ne0).map Txt.strip))
def platF (xs : List Str) : Str := ⟨(rdash (sq (platT xs).cps.toList)).toArray⟩
theorem plat_is {xs : List Str} {X0 Y z : Str} (hX : Txt.join (Str.ofString "-") ((xs.filter ne0).map Txt.strip) = X0) (eX : rep1 X0 = Y) (h : z.cps.toList = rdash (sq Y.cps.toList)) : platF xs = z := by
  subst hX eX
  unfold platF platT
  rw [← h]
def fm (c d : Nat) (q : Nat) : Nat := if q = c then d else q
def mp (q : Nat) : Nat := fm 41 45 (fm 40 45 (fm 34 45 (fm 59 45 (fm 58 45 (fm 92 45 (fm 47 45 (fm 32 95 q)))))))
def unk : List Nat := [117, 110, 107, 110, 111, 119, 110]
theorem rep1_list (x : Str) : (rep1 x).cps.toList = rep unk [] (x.cps.toList.map mp) := by
  unfold rep1
  have h1 : Str.ofString " " = ⟨#[32]⟩ := by decide +kernel
  have h2 : Str.ofString "_" = ⟨#[95]⟩ := by decide +kernel
  have h3 : Str.ofString "/" = ⟨#[47]⟩ := by decide +kernel
  have h4 : Str.ofString "\\" = ⟨#[92]⟩ := by decide +kernel
  have h5 : Str.ofString ":" = ⟨#[58]⟩ := by decide +kernel
  have h6 : Str.ofString ";" = ⟨#[59]⟩ := by decide +kernel
  have h7 : Str.ofString "\"" = ⟨#[34]⟩ := by decide +kernel
  have h8 : Str.ofString "(" = ⟨#[40]⟩ := by decide +kernel
  have h9 : Str.ofString ")" = ⟨#[41]⟩ := by decide +kernel
  have h10 : Str.ofString "unknown" = ⟨unk.toArray⟩ := by decide +kernel
  have h11 : Str.ofString "" = ⟨#[]⟩ := by decide +kernel
  rw [h1, h2, h3, h4, h5, h6, h7, h8, h9, h10, h11, dash_is]
  have one : ∀ (c d : Nat) (y : Str), (Txt.replace y ⟨#[c]⟩ ⟨#[d]⟩).cps.toList = y.cps.toList.map (fm c d) := fun c d y => by
    rw [replace_list (by exact Nat.le_refl 1)]
    exact rep_one c d _
  rw [replace_list (by exact (by decide : 1 ≤ 7))]
  simp only [one, List.map_map]
  rfl
/-- what is left of a fact -/
def pc (x : Str) : List Nat := rep unk [] ((Txt.strip x).cps.toList.map mp)
theorem platF_list (xs : List Str) : (platF xs).cps.toList = nd false (jl ((xs.filter ne0).map pc)) := by
  have e : (platF xs).cps.toList = rdash (sq (platT xs).cps.toList) := rfl
  rw [e, ← (nd_is _).1]
  congr 1
  unfold platT
  rw [rep1_list, join_jl, map_jl (by decide), rep_jl (by decide) (by decide), List.map_map, List.map_map, List.map_map]
  rfl
end Mine
end

section
open PySem PySem.W PyProof.Rows PySem.Calls PySem.Spec
namespace Mine
open LCg LCt LCp
section
variable {prog : Program} {w : World} {A : Around} {E : Value → Shared → Prop} {s : Shared} {h₀ : Heap} {L : Addr} {m : Str → Option Value} {env : Env}
theorem CompRest_inv {elt : Expr} {x : Str} {scope : Scope} {cl : List (Str × Addr)} {S : List (Addr × Obj) → Prop} {P : Nat → Value → Prop} {Fin : List Value → List (Addr × Obj) → Prop}
    (Ψ : Nat → List Value → List (Addr × Obj) → Prop) {n : Nat}
    (turn : ∀ i ys news, i < n → Ψ i ys news → ∀ v I oI C oC D m₂ h tk (E' : Value → Shared → Prop), P i v → NsObj oC m₂ → m₂ x = some v → Fr h₀ L h m → News h₀ L h ((I, oI) :: (C, oC) :: (D, lst ys) :: news) → Off3 I C D news → ((@Ne Nat I C) ∧ (@Ne Nat I D) ∧ (@Ne Nat C D)) →
      wpAny (model prog w) A (eval elt (compEnvC scope cl C env)) (CompEnd h₀ L m { s with heap := h, toks := tk } I oI C oC D (lst ys) S (fun y news' => Ψ (i + 1) (ys ++ [y]) news')) E' { s with heap := h, toks := tk })
    (fin : ∀ ys news, Ψ n ys news → Fin ys news) : ∀ k i ys news, i + k = n → Ψ i ys news → CompRest prog w A h₀ L m env elt x scope cl s S P Fin k i ys news
  | 0, i, ys, news, e, h => by
    have : i = n := e
    subst this
    exact CompRest.zero (fin ys news h)
  | k + 1, i, ys, news, e, h => by
    refine CompRest.succ fun v I oI C oC D m₂ h' tk E' hP hO hx F N o3 hne => ?_
    refine wpAny_mono (turn i ys news (by omega) h v I oI C oC D m₂ h' tk E' hP hO hx F N o3 hne) (fun y s₂ q => ?_) fun _ _ q => q
    obtain ⟨h2, tk2, news', e2, F2, N2, o2, S2, r2⟩ := q
    exact ⟨h2, tk2, news', e2, F2, N2, o2, S2, CompRest_inv Ψ turn fin k (i + 1) _ _ (by omega) r2⟩
theorem CompRestT_inv {ct elt : Expr} {x : Str} {scope : Scope} {cl : List (Str × Addr)} {S : List (Addr × Obj) → Prop} {P : Nat → Value → Prop} {Fin : List Value → List (Addr × Obj) → Prop}
    (Ψ : Nat → List Value → List (Addr × Obj) → Prop) {n : Nat}
    (turn : ∀ i ys news, i < n → Ψ i ys news → ∀ v I oI C oC D m₂ h tk (E' : Value → Shared → Prop), P i v → NsObj oC m₂ → m₂ x = some v → Fr h₀ L h m → News h₀ L h ((I, oI) :: (C, oC) :: (D, lst ys) :: news) → Off3 I C D news → ((@Ne Nat I C) ∧ (@Ne Nat I D) ∧ (@Ne Nat C D)) →
      wpAny (model prog w) A (isTrue ct (compEnvC scope cl C env) (eval ct (compEnvC scope cl C env))) (fun ok s' => if ok = true then
        wpAny (model prog w) A (eval elt (compEnvC scope cl C env)) (CompEnd h₀ L m { s with heap := h, toks := tk } I oI C oC D (lst ys) S (fun y news' => Ψ (i + 1) (ys ++ [y]) news')) E' s'
        else CompEnd h₀ L m { s with heap := h, toks := tk } I oI C oC D (lst ys) S (fun _ news' => Ψ (i + 1) ys news') Value.none s') E' { s with heap := h, toks := tk })
    (fin : ∀ ys news, Ψ n ys news → Fin ys news) : ∀ k i ys news, i + k = n → Ψ i ys news → CompRestT prog w A h₀ L m env ct elt x scope cl s S P Fin k i ys news
  | 0, i, ys, news, e, h => by
    have : i = n := e
    subst this
    exact CompRestT.zero (fin ys news h)
  | k + 1, i, ys, news, e, h => by
    refine CompRestT.succ fun v I oI C oC D m₂ h' tk E' hP hO hx F N o3 hne => ?_
    refine wpAny_mono (turn i ys news (by omega) h v I oI C oC D m₂ h' tk E' hP hO hx F N o3 hne) (fun ok s₁ q => ?_) fun _ _ q => q
    cases ok with
    | true =>
      simp only [if_true] at q ⊢
      refine wpAny_mono q (fun y s₂ q => ?_) fun _ _ q => q
      obtain ⟨h2, tk2, news', e2, F2, N2, o2, S2, r2⟩ := q
      exact ⟨h2, tk2, news', e2, F2, N2, o2, S2, CompRestT_inv Ψ turn fin k (i + 1) _ _ (by omega) r2⟩
    | false =>
      simp only [Bool.false_eq_true, if_false] at q ⊢
      obtain ⟨h2, tk2, news', e2, F2, N2, o2, S2, r2⟩ := q
      exact ⟨h2, tk2, news', e2, F2, N2, o2, S2, CompRestT_inv Ψ turn fin k (i + 1) _ _ (by omega) r2⟩
theorem CompRestP_inv {elt : Expr} {x x₂ : Str} {scope : Scope} {cl : List (Str × Addr)} {S : List (Addr × Obj) → Prop} {P : Nat → Value → Prop} {Fin : List Value → List (Addr × Obj) → Prop}
    (Ψ : Nat → List Value → List (Addr × Obj) → Prop) {n : Nat}
    (turn : ∀ i ys news, i < n → Ψ i ys news → ∀ v, P i v → ∃ (t : Addr) (ot : Obj) (v₁ v₂ : Value) (nt : Nat), v = .ref t ∧ (t, ot) ∈ news ∧ ot.cls = .type "tuple" ∧ ot.data = .seq #[v₁, v₂] nt ∧
      ∀ I oI C oC D m₂ h tk (E' : Value → Shared → Prop), NsObj oC m₂ → m₂ x = some v₁ → m₂ x₂ = some v₂ → Fr h₀ L h m → News h₀ L h ((I, oI) :: (C, oC) :: (D, lst ys) :: news) → Off3 I C D news → ((@Ne Nat I C) ∧ (@Ne Nat I D) ∧ (@Ne Nat C D)) →
      wpAny (model prog w) A (eval elt (compEnvC scope cl C env)) (CompEnd h₀ L m { s with heap := h, toks := tk } I oI C oC D (lst ys) S (fun y news' => Ψ (i + 1) (ys ++ [y]) news')) E' { s with heap := h, toks := tk })
    (fin : ∀ ys news, Ψ n ys news → Fin ys news) : ∀ k i ys news, i + k = n → Ψ i ys news → CompRestP prog w A h₀ L m env elt x x₂ scope cl s S P Fin k i ys news
  | 0, i, ys, news, e, h => by
    have : i = n := e
    subst this
    exact CompRestP.zero (fin ys news h)
  | k + 1, i, ys, news, e, h => by
    refine CompRestP.succ fun v hv => ?_
    obtain ⟨t, ot, v₁, v₂, nt, a1, a2, a3, a4, a5⟩ := turn i ys news (by omega) h v hv
    refine ⟨t, ot, v₁, v₂, nt, a1, a2, a3, a4, fun I oI C oC D m₂ h' tk E' hO hx hx2 F N o3 hne => ?_⟩
    refine wpAny_mono (a5 I oI C oC D m₂ h' tk E' hO hx hx2 F N o3 hne) (fun y s₂ q => ?_) fun _ _ q => q
    obtain ⟨h2, tk2, news', e2, F2, N2, o2, S2, r2⟩ := q
    exact ⟨h2, tk2, news', e2, F2, N2, o2, S2, CompRestP_inv Ψ turn fin k (i + 1) _ _ (by omega) r2⟩
end
section
variable {prog : Program} {w : World} {A : Around} {E : Value → Shared → Prop} {s : Shared}
/-- an item of a tuple -/
theorem tup_item {value slice : PySem.Expr} {l : Addr} {vs : List Value} {k : Int} {u : Tok} {v : Value} {Q : Value → Shared → Prop} (hl : IsTup s.heap l vs.toArray) (h0 : 0 ≤ k) (hhi : k < 2 ^ 63) (hx : vs[k.toNat]? = some v) (h : Q v s)
    (hs : subscripted slice false (.ref l) (.int k u) = operate [.ref l, .int k u] (getItem (.ref l) (.int k u)) := by with_unfolding_all rfl) :
    wpAny (model prog w) A (subscriptTail value slice (.ref l) (.int k u)) Q E s := by
  refine tail_any hl.typeIs slot_tuple_getitem.lookup (PyProof.Rows.getItem_tuple hl (by omega) hhi (j := k.toNat) ?_ (by simpa using hx) h) hs
  refine StrLaws.seqIndex_nonneg h0 ?_
  have := (List.getElem?_eq_some_iff.mp hx).1
  rw [List.size_toArray]
  omega
theorem ints_at {vs : List Value} {ns : List Int} : IntsAre vs ns → ∀ i : Nat, i < ns.length → ∃ t, vs[i]? = some (.int (ns.getD i 0) t)
  | .cons z t h, 0, _ => ⟨t, rfl⟩
  | .cons z t h, i + 1, hi => ints_at h i (by simpa using hi)
theorem strs_at {vs : List Value} {ns : List Str} : StrsAre vs ns → ∀ i : Nat, i < ns.length → ∃ t, vs[i]? = some (.str (ns.getD i Str.empty) t)
  | .cons z t h, 0, _ => ⟨t, rfl⟩
  | .cons z t h, i + 1, hi => strs_at h i (by simpa using hi)
theorem tup_ints {value slice : PySem.Expr} {l : Addr} {vs : List Value} {ns : List Int} {k : Int} {u : Tok} {Q : Value → Shared → Prop} (hl : IsTup s.heap l vs.toArray) (hi : IntsAre vs ns) (h0 : 0 ≤ k) (hk : k < ns.length) (hhi : k < 2 ^ 63) (h : ∀ t, Q (.int (ns.getD k.toNat 0) t) s)
    (hs : subscripted slice false (.ref l) (.int k u) = operate [.ref l, .int k u] (getItem (.ref l) (.int k u)) := by with_unfolding_all rfl) :
    wpAny (model prog w) A (subscriptTail value slice (.ref l) (.int k u)) Q E s := by
  obtain ⟨t, e⟩ := ints_at hi k.toNat (by omega)
  exact tup_item hl h0 hhi e (h t) hs
theorem tup_strs {value slice : PySem.Expr} {l : Addr} {vs : List Value} {ns : List Str} {k : Int} {u : Tok} {Q : Value → Shared → Prop} (hl : IsTup s.heap l vs.toArray) (hi : StrsAre vs ns) (h0 : 0 ≤ k) (hk : k < ns.length) (hhi : k < 2 ^ 63) (h : ∀ t, Q (.str (ns.getD k.toNat Str.empty) t) s)
    (hs : subscripted slice false (.ref l) (.int k u) = operate [.ref l, .int k u] (getItem (.ref l) (.int k u)) := by with_unfolding_all rfl) :
    wpAny (model prog w) A (subscriptTail value slice (.ref l) (.int k u)) Q E s := by
  obtain ⟨t, e⟩ := strs_at hi k.toNat (by omega)
  exact tup_item hl h0 hhi e (h t) hs
end
theorem isT {h₀ h : Heap} {L l : Addr} {news : List (Addr × Obj)} {vs : List Value} {n : Nat} (N : News h₀ L h news) (hl : (l, ({ cls := .type "tuple", data := .seq vs.toArray n } : Obj)) ∈ news) : IsTup h l vs.toArray := by
  first
    | exact ⟨_, (N _ hl).1, rfl, n, rfl⟩
    | exact ⟨_, _, (N _ hl).1, rfl, rfl⟩
    | exact ⟨_, (N _ hl).1, rfl, rfl⟩
/-! the ledger, one object changed -/
def updL (D : Addr) (o : Obj) (news : List (Addr × Obj)) : List (Addr × Obj) := news.map fun p => if p.1 = D then (D, o) else p
theorem updL_self {D : Addr} {o o' : Obj} {news : List (Addr × Obj)} (h : (D, o') ∈ news) : (D, o) ∈ updL D o news := List.mem_map.mpr ⟨_, h, if_pos rfl⟩
theorem updL_ne {D : Addr} {o : Obj} {news : List (Addr × Obj)} {p : Addr × Obj} (h : p ∈ news) (hn : p.1 ≠ D) : p ∈ updL D o news := List.mem_map.mpr ⟨_, h, if_neg hn⟩
theorem News.updL {h₀ h h' : Heap} {L D : Addr} {o o' : Obj} {news : List (Addr × Obj)} (N : News h₀ L h news) (hD : (D, o) ∈ news) (hs : Heap.SameBut D h h') (ho : h'.get? D = some o') : News h₀ L h' (updL D o' news) := by
  intro p hp
  obtain ⟨q, hq, e⟩ := List.mem_map.mp hp
  by_cases hn : q.1 = D
  · rw [if_pos hn] at e
    subst e
    exact ⟨ho, (N _ hD).2⟩
  · rw [if_neg hn] at e
    subst e
    exact ⟨hs.extBut _ _ hn (N _ hq).1, (N _ hq).2⟩
section
variable {prog : Program} {w : World} {A : Around} {E : Value → Shared → Prop} {s : Shared} {h₀ : Heap} {L : Addr} {m : Str → Option Value}
theorem append_led {D : Addr} {ys : List Value} {n : Nat} {x : Value} {news : List (Addr × Obj)} {Q : Value → Shared → Prop} (F : Fr h₀ L s.heap m) (N : News h₀ L s.heap news) (hD : (D, PySem.W.listOf ys.toArray n) ∈ news) (hsz : ys.length ≤ 1000)
    (h : ∀ h', Fr h₀ L h' m → News h₀ L h' (updL D (PySem.W.listOf (ys ++ [x]).toArray (n + 1)) news) → Q .none { s with heap := h' }) :
    wpAny (model prog w) A (call (.builtin "list.append") [.ref D, x]) Q E s := by
  refine append_at (hsz := by rw [List.size_toArray]; unfold sizeLine; omega) (N _ hD).1 fun h' hs ho' => ?_
  refine h h' (F.change hs (N _ hD).2.1 (N _ hD).2.2) (News.updL N hD hs (ho'.trans ?_))
  rw [List.push_toArray]
theorem extend_led {D b : Addr} {ys zs : List Value} {n n2 : Nat} {news : List (Addr × Obj)} {Q : Value → Shared → Prop} (F : Fr h₀ L s.heap m) (N : News h₀ L s.heap news) (hD : (D, PySem.W.listOf ys.toArray n) ∈ news) (hb : (b, PySem.W.listOf zs.toArray n2) ∈ news) (hsz : ys.length ≤ 1000) (hsz2 : zs.length ≤ 1000)
    (h : ∀ h' n', Fr h₀ L h' m → News h₀ L h' (updL D (PySem.W.listOf (ys ++ zs).toArray n') news) → Q .none { s with heap := h' }) :
    wpAny (model prog w) A (call (.builtin "list.extend") [.ref D, .ref b]) Q E s := by
  have hm := N _ hD
  have hsz' : ys.toArray.size + zs.toArray.size ≤ sizeLine := by rw [List.size_toArray, List.size_toArray]; unfold sizeLine; omega
  refine call_meets PySem.F.slot_list_extend ⟨_, hm.1, rfl⟩ PySem.F.entry_list_extend (PySem.F.args_list_extend_2 _ _) (AutoSeq1.list_extend_list_list_0 D ys.toArray n b zs.toArray n2 (extend_door hsz') (Nat.le_trans (Nat.le_add_right _ _) hsz')) ⟨hm.1, (N _ hb).1, ?_⟩
  have e : ys.toArray ++ zs.toArray = (ys ++ zs).toArray := by simp
  have ho' : (s.heap.update D (Obj.mapSeq fun x => x ++ zs.toArray)).get? D = some (PySem.W.listOf (ys ++ zs).toArray (if (ys.toArray ++ zs.toArray).size == ys.toArray.size then n else n + 1)) := by
    rw [Heap.get?_update_self _ hm.1 (by rw [mapSeq_app]; rfl), mapSeq_app, e]
  exact h _ _ (F.change (Heap.SameBut.update ..) hm.2.1 hm.2.2) (News.updL N hD (Heap.SameBut.update ..) ho')
end
end Mine
end

section
open PySem PySem.W PyProof.Rows PySem.Calls PySem.Spec
namespace Mine
open PySem.StrLaws Builtin Builtin.Str
/-! lists of fields, a hyphen between: their order -/
def jd (r : List (List Nat)) : List Nat := r.flatMap (45 :: ·)
theorem jd_cons (p : List Nat) (r : List (List Nat)) : jd (p :: r) = 45 :: (p ++ jd r) := by unfold jd; rw [List.flatMap_cons, List.cons_append]
theorem jl_cons : ∀ (p : List Nat) (r : List (List Nat)), jl (p :: r) = p ++ jd r
  | p, [] => by simp [jl, jd]
  | p, q :: r => by rw [jl, jl_cons q r, jd_cons]
theorem jd_start (r : List (List Nat)) : jd r = [] ∨ ∃ t, jd r = 45 :: t := by
  cases r with
  | nil => exact .inl rfl
  | cons p r => exact .inr ⟨_, jd_cons p r⟩
abbrev Hi (f : List Nat) : Prop := ∀ c ∈ f, 45 < c
theorem app_lt {x y : List Nat} (hx : x = [] ∨ ∃ t, x = 45 :: t) (hy : y = [] ∨ ∃ t, y = 45 :: t) : ∀ f g : List Nat, Hi f → Hi g → (f ++ x < g ++ y ↔ f < g ∨ f = g ∧ x < y)
  | [], [], _, _ => by simp
  | [], c :: g, _, hg => by
    have hc := hg c (.head _)
    rcases hx with rfl | ⟨t, rfl⟩
    · simp
    · simp [List.cons_lt_cons_iff, hc]
  | c :: f, [], hf, _ => by
    have hc := hf c (.head _)
    rcases hy with rfl | ⟨t, rfl⟩
    · simp
    · have h1 : ¬ c < 45 := by omega
      have h2 : c ≠ 45 := by omega
      simp [List.cons_lt_cons_iff, h1, h2]
  | c :: f, d :: g, hf, hg => by
    have ih := app_lt hx hy f g (fun c h => hf c (.tail _ h)) fun c h => hg c (.tail _ h)
    rw [List.cons_append, List.cons_append, List.cons_lt_cons_iff, List.cons_lt_cons_iff, ih]
    constructor
    · rintro (h | ⟨rfl, h | ⟨rfl, h⟩⟩)
      · exact .inl (.inl h)
      · exact .inl (.inr ⟨rfl, h⟩)
      · exact .inr ⟨rfl, h⟩
    · rintro ((h | ⟨rfl, h⟩) | ⟨h, k⟩)
      · exact .inl h
      · exact .inr ⟨rfl, .inl h⟩
      · obtain ⟨rfl, rfl⟩ := List.cons.inj h
        exact .inr ⟨rfl, .inr ⟨rfl, k⟩⟩
theorem jd_lt : ∀ a b : List (List Nat), (∀ f ∈ a, Hi f) → (∀ f ∈ b, Hi f) → (jd a < jd b ↔ a < b)
  | [], [], _, _ => by simp [jd]
  | [], g :: b, _, _ => by rw [jd_cons]; simp [jd]
  | f :: a, [], _, _ => by rw [jd_cons]; simp [jd]
  | f :: a, g :: b, ha, hb => by
    rw [jd_cons, jd_cons, List.cons_lt_cons_iff, app_lt (jd_start a) (jd_start b) f g (ha f (.head _)) (hb g (.head _)), jd_lt a b (fun f h => ha f (.tail _ h)) fun f h => hb f (.tail _ h), List.cons_lt_cons_iff]
    simp
theorem jl_lt : ∀ a b : List (List Nat), (∀ f ∈ a, Hi f ∧ f ≠ []) → (∀ f ∈ b, Hi f ∧ f ≠ []) → (jl a < jl b ↔ a < b)
  | [], [], _, _ => by simp [jl]
  | [], g :: b, _, hb => by
    rw [jl_cons]
    have := (hb g (.head _)).2
    cases g with
    | nil => exact absurd rfl this
    | cons c g => simp [jl]
  | f :: a, [], _, _ => by simp [jl]
  | f :: a, g :: b, ha, hb => by
    rw [jl_cons, jl_cons, app_lt (jd_start a) (jd_start b) f g (ha f (.head _)).1 (hb g (.head _)).1, jd_lt a b (fun f h => (ha f (.tail _ h)).1) fun f h => (hb f (.tail _ h)).1, List.cons_lt_cons_iff]
theorem pre_nlt {α : Type} [LT α] [DecidableLT α] (hi : ∀ x : α, ¬ x < x) : ∀ r t : List α, ¬ r ++ t < r
  | [], t => by simp
  | c :: r, t => by rw [List.cons_append, List.cons_lt_cons_iff]; rintro (h | ⟨_, h⟩); exact hi c h; exact pre_nlt hi r t h
theorem pre_lt {α : Type} [LT α] (x : α) : ∀ r t : List α, r < r ++ x :: t
  | [], t => by simp
  | c :: r, t => by rw [List.cons_append, List.cons_lt_cons_iff]; exact .inr ⟨rfl, pre_lt x r t⟩
theorem between : ∀ r' r cur : List (List Nat), r' <+: cur → ¬ r < r' → ¬ cur < r → r' <+: r
  | [], r, _, _, _, _ => List.nil_prefix
  | c :: r', r, cur, h, h1, h2 => by
    obtain ⟨t, rfl⟩ := h
    cases r with
    | nil => exact absurd (by simp) h1
    | cons d r =>
      rw [List.cons_append, List.cons_lt_cons_iff] at h2
      rw [List.cons_lt_cons_iff] at h1
      have e : c = d := List.le_antisymm (List.not_lt.mp fun q => h1 (.inl q)) (List.not_lt.mp fun q => h2 (.inl q))
      subst e
      obtain ⟨s, e⟩ := between r' r (r' ++ t) ⟨t, rfl⟩ (fun q => h1 (.inr ⟨rfl, q⟩)) (fun q => h2 (.inr ⟨rfl, q⟩))
      exact ⟨s, by rw [List.cons_append, e]⟩
theorem split_eq {x y : List Nat} (hx : x = [] ∨ ∃ t, x = 45 :: t) (hy : y = [] ∨ ∃ t, y = 45 :: t) : ∀ p q : List Nat, 45 ∉ p → 45 ∉ q → p ++ x = q ++ y → p = q ∧ x = y
  | [], [], _, _, h => ⟨rfl, h⟩
  | [], c :: q, _, hq, h => by
    rcases hx with rfl | ⟨t, rfl⟩
    · simp at h
    · obtain ⟨rfl, _⟩ := List.cons.inj h; exact absurd (.head _) hq
  | c :: p, [], hp, _, h => by
    rcases hy with rfl | ⟨t, rfl⟩
    · simp at h
    · obtain ⟨rfl, _⟩ := List.cons.inj h; exact absurd (.head _) hp
  | c :: p, d :: q, hp, hq, h => by
    obtain ⟨e, h'⟩ := List.cons.inj h
    obtain ⟨e2, h3⟩ := split_eq hx hy p q (fun k => hp (.tail _ k)) (fun k => hq (.tail _ k)) h'
    exact ⟨by rw [e, e2], h3⟩
theorem jd_inj : ∀ a b : List (List Nat), (∀ f ∈ a, 45 ∉ f) → (∀ f ∈ b, 45 ∉ f) → jd a = jd b → a = b
  | [], [], _, _, _ => rfl
  | [], g :: b, _, _, h => by rw [jd_cons] at h; simp [jd] at h
  | f :: a, [], _, _, h => by rw [jd_cons] at h; simp [jd] at h
  | f :: a, g :: b, ha, hb, h => by
    rw [jd_cons, jd_cons] at h
    obtain ⟨e, h'⟩ := split_eq (jd_start a) (jd_start b) f g (ha f (.head _)) (hb g (.head _)) (List.cons.inj h).2
    rw [e, jd_inj a b (fun f k => ha f (.tail _ k)) (fun f k => hb f (.tail _ k)) h']
theorem jd_pre : ∀ (r c : List (List Nat)) (t : List Nat), (∀ f ∈ r, 45 ∉ f) → (∀ f ∈ c, 45 ∉ f) → jd r ++ 45 :: t = jd c → r <+: c
  | [], _, _, _, _, _ => List.nil_prefix
  | p :: r, [], t, _, _, h => by rw [jd_cons] at h; simp [jd] at h
  | p :: r, q :: c, t, hr, hc, h => by
    rw [jd_cons, jd_cons, List.cons_append, List.append_assoc] at h
    have hs : jd r ++ 45 :: t = [] ∨ ∃ u, jd r ++ 45 :: t = 45 :: u := by
      rcases jd_start r with e | ⟨u, e⟩
      · exact .inr ⟨t, by rw [e]; rfl⟩
      · exact .inr ⟨u ++ 45 :: t, by rw [e]; rfl⟩
    obtain ⟨e0, h'⟩ := split_eq hs (jd_start c) p q (hr p (.head _)) (hc q (.head _)) (List.cons.inj h).2
    obtain ⟨s, e⟩ := jd_pre r c t (fun f k => hr f (.tail _ k)) (fun f k => hc f (.tail _ k)) h'
    exact ⟨s, by rw [e0, List.cons_append, e]⟩
/-! a machine's fields -/
abbrev J (fs : List Str) : Str := Txt.join (Str.ofString "-") fs
def FF (fs : List Str) : Prop := ∀ f ∈ fs, f = Str.ofString "a" ∨ f = Str.ofString "b" ∨ f = Str.ofString "a_b" ∨ f = Str.ofString "a.b"
def chs (fs : List Str) : List (List Nat) := fs.map fun p => p.cps.toList
theorem J_chs (fs : List Str) : (J fs).cps.toList = jl (chs fs) := join_jl fs
theorem str_inj {x y : Str} (h : x.cps.toList = y.cps.toList) : x = y := by
  cases x; cases y; simp only at h; congr; exact Array.toList_inj.mp h
theorem chs_inj {a b : List Str} (h : chs a = chs b) : a = b := (List.map_inj_right fun _ _ => str_inj).mp h
theorem field_hi : ∀ {f : Str}, f = Str.ofString "a" ∨ f = Str.ofString "b" ∨ f = Str.ofString "a_b" ∨ f = Str.ofString "a.b" → Hi f.cps.toList ∧ f.cps.toList ≠ [] ∧ 45 ∉ f.cps.toList ∧ f.length ≤ 3 ∧ 1 ≤ f.length ∧ ne0 f = true ∧ pc f = f.cps.toList := by
  rintro f (rfl | rfl | rfl | rfl) <;> decide +kernel
theorem FF.hi {fs : List Str} (h : FF fs) : ∀ f ∈ chs fs, Hi f ∧ f ≠ [] := by
  intro f hf
  obtain ⟨g, hg, rfl⟩ := List.mem_map.mp hf
  exact ⟨(field_hi (h g hg)).1, (field_hi (h g hg)).2.1⟩
theorem FF.no {fs : List Str} (h : FF fs) : ∀ f ∈ chs fs, 45 ∉ f := by
  intro f hf
  obtain ⟨g, hg, rfl⟩ := List.mem_map.mp hf
  exact (field_hi (h g hg)).2.2.1
theorem J_lt {a b : List Str} (ha : FF a) (hb : FF b) : (J a).cps.toList < (J b).cps.toList ↔ chs a < chs b := by
  rw [J_chs, J_chs, jl_lt _ _ ha.hi hb.hi]
theorem J_inj {a b : List Str} (ha : FF a) (hb : FF b) (h : J a = J b) : a = b := by
  refine chs_inj (List.le_antisymm (List.not_lt.mp fun q => ?_) (List.not_lt.mp fun q => ?_))
  · have := (J_lt hb ha).mpr q; rw [h] at this; exact List.lt_irrefl _ this
  · have := (J_lt ha hb).mpr q; rw [h] at this; exact List.lt_irrefl _ this
theorem FF.pre {a b : List Str} (h : FF b) (hp : a <+: b) : FF a := fun f hf => h f (hp.subset hf)
theorem FF.cons {f : Str} {r : List Str} (h : FF (f :: r)) : FF r := fun g hg => h g (.tail _ hg)
theorem J_nil : J [] = Str.ofString "" := by decide +kernel
theorem J_len {fs : List Str} (h : FF fs) (hl : fs.length ≤ 20) : (J fs).length ≤ 100 := by
  show (Txt.join (Str.ofString "-") fs).length ≤ 100
  unfold Txt.join
  rw [glued_eq_join]
  refine Nat.le_trans (StrLaws.join_length_le _ _) ?_
  have h1 := StrLaws.sumLen_le (B := 3) fs fun y hy => (field_hi (h y hy)).2.2.2.1
  have h3 : (Str.ofString "-").length = 1 := by decide +kernel
  rw [h3]
  omega
theorem jd_len : ∀ a : List (List Nat), a.length ≤ (jd a).length
  | [] => Nat.zero_le _
  | p :: r => by have := jd_len r; rw [jd_cons]; simp only [List.length_cons, List.length_append]; omega
theorem len_J {fs : List Str} (h : FF fs) : fs.length ≤ (J fs).length := by
  have e : (J fs).length = (J fs).cps.toList.length := by simp [Str.length]
  rw [e, J_chs]
  have e2 : fs.length = (chs fs).length := by simp [chs]
  rw [e2]
  have hh := h.hi
  cases hc : chs fs with
  | nil => exact Nat.zero_le _
  | cons p r =>
    rw [hc] at hh
    have := (hh p (.head _)).2
    have := jd_len r
    have : p.length ≠ 0 := fun q => (hh p (.head _)).2 (List.eq_nil_of_length_eq_zero q)
    rw [jl_cons]; simp only [List.length_cons, List.length_append]; omega
theorem split_ne (x y : Str) : Txt.split x y ≠ [] := by
  unfold Txt.split
  split
  · simp
  · split
    · simp
    · rw [partsBetween_eq]
      obtain ⟨p, q, e⟩ := partsFrom_ne x y.length 0 (occurrences x y 0 x.length (x.length + 1))
      rw [e]; simp
theorem split_J {fs : List Str} (h : FF fs) (h0 : fs ≠ []) : Txt.split (J fs) (Str.ofString "-") = fs := by
  rw [dash_is]
  have e1 := join_split (J fs) ⟨#[45]⟩
  have e2 := split_free (J fs) 45
  have e3 := split_ne (J fs) ⟨#[45]⟩
  generalize Txt.split (J fs) ⟨#[45]⟩ = P at *
  have e4 : J P = J fs := by
    show Txt.join (Str.ofString "-") P = _
    unfold Txt.join
    rw [glued_eq_join, dash_is, e1]
  have e5 : jl (chs P) = jl (chs fs) := by rw [← J_chs, ← J_chs, e4]
  refine chs_inj ?_
  have hP : ∀ f ∈ chs P, 45 ∉ f := by
    intro f hf
    obtain ⟨g, hg, rfl⟩ := List.mem_map.mp hf
    exact e2 g hg
  have hF := h.no
  cases P with
  | nil => exact absurd rfl e3
  | cons p P =>
    cases fs with
    | nil => exact absurd rfl h0
    | cons q fs =>
      show p.cps.toList :: chs P = q.cps.toList :: chs fs
      rw [show chs (p :: P) = p.cps.toList :: chs P from rfl, show chs (q :: fs) = q.cps.toList :: chs fs from rfl, jl_cons, jl_cons] at e5
      obtain ⟨e6, e7⟩ := split_eq (jd_start _) (jd_start _) _ _ (hP _ (.head _)) (hF _ (.head _)) e5
      have e8 : p.cps.toList = q.cps.toList := e6
      have e9 : chs P = chs fs := jd_inj _ _ (fun f k => hP f (.tail _ k)) (fun f k => hF f (.tail _ k)) e7
      rw [e8, e9]
theorem nd_app : ∀ (f x : List Nat) (b : Bool), f ≠ [] → 45 ∉ f → nd b (f ++ x) = (if b then 45 :: f else f) ++ nd false x
  | [], _, _, h, _ => absurd rfl h
  | c :: f, x, b, _, h => by
    have hc : c ≠ 45 := fun q => h (by rw [q]; exact .head _)
    have e : nd false (f ++ x) = f ++ nd false x := by
      cases f with
      | nil => rfl
      | cons d f => have := nd_app (d :: f) x false (by simp) (fun k => h (.tail _ k)); simpa using this
    rw [List.cons_append, nd, if_neg hc, e]
    cases b <;> rfl
theorem nd_jd : ∀ r : List (List Nat), (∀ f ∈ r, f ≠ [] ∧ 45 ∉ f) → nd false (jd r) = jd r
  | [], _ => rfl
  | f :: r, h => by
    rw [jd_cons, nd, if_pos rfl, nd_app f _ _ (h f (.head _)).1 (h f (.head _)).2, nd_jd r fun f k => h f (.tail _ k)]
    rfl
theorem plat_J {fs : List Str} (h : FF fs) : platF fs = J fs := by
  refine str_inj ?_
  rw [platF_list, J_chs]
  have e1 : fs.filter ne0 = fs := List.filter_eq_self.mpr fun f hf => (field_hi (h f hf)).2.2.2.2.2.1
  have e2 : fs.map pc = chs fs := List.map_congr_left fun f hf => (field_hi (h f hf)).2.2.2.2.2.2
  rw [e1, e2]
  have h1 := h.hi
  have h2 := h.no
  cases hc : chs fs with
  | nil => rfl
  | cons p r =>
    rw [hc] at h1 h2
    rw [jl_cons, nd_app p _ _ (h1 p (.head _)).2 (h2 p (.head _)), nd_jd r fun f k => ⟨(h1 f (.tail _ k)).2, h2 f (.tail _ k)⟩]
    rfl
/-! the nearest rule -/
def Near (rs : List (List Str)) (fs res : List Str) : Prop := (res ∈ rs ∧ res <+: fs ∧ ∀ r ∈ rs, r <+: fs → r.length ≤ res.length) ∨ (res = [] ∧ ∀ r ∈ rs, ¬ r <+: fs)
def Inv (rs : List (List Str)) (fs cur : List Str) : Prop := cur <+: fs ∧ ∀ r ∈ rs, r <+: fs → r <+: cur
structure Tab (ts : List Str) (rs : List (List Str)) : Prop where
  srt : Srt ts
  mem : ∀ t, t ∈ ts ↔ ∃ r ∈ rs, t = J r
  ff : ∀ r ∈ rs, FF r ∧ r ≠ []
  len : ∀ r ∈ rs, r.length ≤ 20
def comm : List Str → List Str → List Str
  | x :: xs, y :: ys => if x = y then x :: comm xs ys else []
  | _, _ => []
theorem comm_pre : ∀ a b : List Str, comm a b <+: a ∧ comm a b <+: b
  | [], _ => ⟨List.nil_prefix, List.nil_prefix⟩
  | x :: a, [] => ⟨List.nil_prefix, List.nil_prefix⟩
  | x :: a, y :: b => by
    rw [comm]
    by_cases h : x = y
    · subst h
      rw [if_pos rfl, List.cons_prefix_cons, List.cons_prefix_cons]
      exact ⟨⟨rfl, (comm_pre a b).1⟩, ⟨rfl, (comm_pre a b).2⟩⟩
    · rw [if_neg h]; exact ⟨List.nil_prefix, List.nil_prefix⟩
theorem comm_max : ∀ r a b : List Str, r <+: a → r <+: b → r <+: comm a b
  | [], _, _, _, _ => List.nil_prefix
  | c :: r, [], _, h, _ => by simp at h
  | c :: r, _ :: _, [], _, h => by simp at h
  | c :: r, x :: a, y :: b, h1, h2 => by
    rw [List.cons_prefix_cons] at h1 h2
    obtain ⟨rfl, h1⟩ := h1
    obtain ⟨rfl, h2⟩ := h2
    rw [comm, if_pos rfl, List.cons_prefix_cons]
    exact ⟨rfl, comm_max r a b h1 h2⟩
theorem comm_ff {cur : List Str} (r : List Str) (h : FF cur) : FF (comm cur r) := h.pre (comm_pre cur r).1
theorem comm_len (cur r : List Str) : (comm cur r).length ≤ cur.length := (comm_pre cur r).1.length_le
theorem chs_pre {a b : List Str} (h : a <+: b) : chs a <+: chs b := List.IsPrefix.map _ h
theorem pre_chs : ∀ {a b : List Str}, chs a <+: chs b → a <+: b
  | [], _, _ => List.nil_prefix
  | x :: a, [], h => by simp [chs] at h
  | x :: a, y :: b, h => by
    rw [show chs (x :: a) = x.cps.toList :: chs a from rfl, show chs (y :: b) = y.cps.toList :: chs b from rfl, List.cons_prefix_cons] at h
    rw [List.cons_prefix_cons]
    exact ⟨str_inj h.1, pre_chs h.2⟩
theorem J_pre {r cur : List Str} (hr : FF r) (hc : FF cur) (h : r <+: cur) : ¬ (J cur).cps.toList < (J r).cps.toList := by
  rw [J_lt hc hr]
  obtain ⟨t, e⟩ := chs_pre h
  rw [← e]
  exact pre_nlt List.lt_irrefl _ _
theorem J_pre_lt {r cur : List Str} (hr : FF r) (hc : FF cur) (h : r <+: cur) (hl : r.length < cur.length) : (J r).cps.toList < (J cur).cps.toList := by
  rw [J_lt hr hc]
  obtain ⟨t, rfl⟩ := h
  cases t with
  | nil => simp at hl
  | cons x t =>
    have e : chs (r ++ x :: t) = chs r ++ x.cps.toList :: chs t := by simp [chs]
    rw [e]
    exact pre_lt _ _ _
section
variable {ts : List Str} {rs : List (List Str)} {fs cur r : List Str}
theorem tab_le (T : Tab ts rs) (hc : FF cur) (hr : r ∈ rs) (h : r <+: cur) : ∃ i, ts[i]? = some (J r) ∧ i + 1 ≤ cntR ts (J cur) := by
  obtain ⟨i, hi⟩ := List.getElem?_of_mem ((T.mem (J r)).mpr ⟨r, hr, rfl⟩)
  exact ⟨i, hi, lt_cntR T.srt hi (J_pre (T.ff r hr).1 hc h)⟩
theorem near_zero (T : Tab ts rs) (hf : FF fs) (hi : Inv rs fs cur) (h : cntR ts (J cur) = 0) : Near rs fs [] := by
  refine .inr ⟨rfl, fun r hr hp => ?_⟩
  obtain ⟨i, _, h2⟩ := tab_le T (hf.pre hi.1) hr (hi.2 r hr hp)
  omega
theorem near_nil (T : Tab ts rs) : cntR ts (J []) = 0 := by
  unfold cntR
  rw [List.countP_eq_zero]
  intro t ht
  obtain ⟨r, hr, rfl⟩ := (T.mem t).mp ht
  obtain ⟨hf, hn⟩ := T.ff r hr
  have : (J []).cps.toList < (J r).cps.toList := J_pre_lt (fun _ h => nomatch h) hf List.nil_prefix (Nat.pos_of_ne_zero fun q => hn (List.eq_nil_of_length_eq_zero q))
  simp [this]
theorem near_at (T : Tab ts rs) (h : cntR ts (J cur) ≠ 0) : ∃ r ∈ rs, ts[cntR ts (J cur) - 1]? = some (J r) := by
  have hl := cntR_len (xs := ts) (x := J cur)
  obtain ⟨r, hr, e⟩ := (T.mem _).mp (List.getElem_mem (l := ts) (n := cntR ts (J cur) - 1) (by omega))
  exact ⟨r, hr, by rw [List.getElem?_eq_getElem (by omega), e]⟩
theorem starts_pre {r cur : List Str} (hr : FF r) (hr0 : r ≠ []) (hc : FF cur) (h : Txt.startswith (J cur) (J r ++ Str.ofString "-") = true) : r <+: cur := by
  unfold Txt.startswith at h
  rw [subAt_eq] at h
  simp only [Bool.and_eq_true, List.drop_zero] at h
  have e := eq_of_beq h.2
  have e2 : (J r ++ Str.ofString "-").cps.toList <+: (J cur).cps.toList := e ▸ List.take_prefix _ _
  have e3 : (J r ++ Str.ofString "-").cps.toList = jl (chs r) ++ [45] := by
    rw [Str.cps_append, Array.toList_append, J_chs, dash_is]
  rw [e3, J_chs] at e2
  obtain ⟨t, e4⟩ := e2
  refine pre_chs ?_
  have h1 := hr.no
  have h2 := hc.no
  cases hcr : chs r with
  | nil => exact List.nil_prefix
  | cons p R =>
    rw [hcr] at h1 e4
    cases hcc : chs cur with
    | nil => rw [hcc] at e4; simp [jl] at e4
    | cons q C =>
      rw [hcc] at h2 e4
      rw [jl_cons, jl_cons, List.append_assoc, List.append_assoc] at e4
      have hs : jd R ++ ([45] ++ t) = [] ∨ ∃ u, jd R ++ ([45] ++ t) = 45 :: u := by
        rcases jd_start R with e | ⟨u, e⟩
        · exact .inr ⟨t, by rw [e]; rfl⟩
        · exact .inr ⟨u ++ ([45] ++ t), by rw [e]; rfl⟩
      obtain ⟨rfl, e5⟩ := split_eq hs (jd_start C) p q (h1 p (.head _)) (h2 q (.head _)) e4
      rw [List.cons_prefix_cons]
      exact ⟨rfl, jd_pre R C t (fun f k => h1 f (.tail _ k)) (fun f k => h2 f (.tail _ k)) e5⟩
theorem near_ret (T : Tab ts rs) (hf : FF fs) (hi : Inv rs fs cur) (hr : r ∈ rs) (h0 : cntR ts (J cur) ≠ 0) (ha : ts[cntR ts (J cur) - 1]? = some (J r))
    (hit : J cur = J r ∨ Txt.startswith (J cur) (J r ++ Str.ofString "-") = true) : Near rs fs r := by
  have hc := hf.pre hi.1
  obtain ⟨hrf, hr0⟩ := T.ff r hr
  have hp : r <+: cur := by
    rcases hit with e | e
    · rw [J_inj hc hrf e]; exact List.prefix_rfl
    · exact starts_pre hrf hr0 hc e
  refine .inl ⟨hr, hp.trans hi.1, fun r2 hr2 hp2 => ?_⟩
  have hp2' := hi.2 r2 hr2 hp2
  obtain ⟨i, e, hlt⟩ := tab_le T hc hr2 hp2'
  have hn := srt_get T.srt e ha (by omega)
  refine Nat.le_of_not_lt fun q => hn ?_
  exact J_pre_lt hrf (T.ff r2 hr2).1 (List.prefix_of_prefix_length_le hp hp2' (Nat.le_of_lt q)) q
theorem near_step (T : Tab ts rs) (hf : FF fs) (hi : Inv rs fs cur) (hr : r ∈ rs) (h0 : cntR ts (J cur) ≠ 0) (ha : ts[cntR ts (J cur) - 1]? = some (J r))
    (h1 : J cur ≠ J r) : Inv rs fs (comm cur r) ∧ (comm cur r).length < cur.length := by
  have hc := hf.pre hi.1
  obtain ⟨hrf, _⟩ := T.ff r hr
  have hle : ¬ (J cur).cps.toList < (J r).cps.toList := fun q => by have := cntR_le T.srt ha q; omega
  refine ⟨⟨(comm_pre cur r).1.trans hi.1, fun r2 hr2 hp2 => ?_⟩, ?_⟩
  · have hp2' := hi.2 r2 hr2 hp2
    obtain ⟨i, e, hlt⟩ := tab_le T hc hr2 hp2'
    have hn : ¬ (J r).cps.toList < (J r2).cps.toList := srt_get T.srt e ha (by omega)
    rw [J_lt hrf (T.ff r2 hr2).1] at hn
    rw [J_lt hc hrf] at hle
    exact comm_max r2 cur r hp2' (pre_chs (between _ _ _ (chs_pre hp2') hn hle))
  · refine Nat.lt_of_le_of_ne (comm_len cur r) fun q => ?_
    have e : comm cur r = cur := (comm_pre cur r).1.eq_of_length q
    have hp : cur <+: r := e ▸ (comm_pre cur r).2
    rcases Nat.lt_or_eq_of_le hp.length_le with k | k
    · exact hle (J_pre_lt hc hrf hp k)
    · exact h1 (by rw [hp.eq_of_length k])
end
end Mine
end

section
open PySem PySem.W PyProof.Rows PySem.Calls PySem.Spec
set_option maxHeartbeats 8000000
namespace Mine
theorem While_any {prog : Program} {w : World} {A : Around} {E : Value → Shared → Prop} {Q : Flow → Shared → Prop} {s : Shared} {env : Env} {test : Expr} {body : List Stmt} {pos : Pos} (I : Nat → Shared → Prop) {n₀ : Nat} (h0 : I n₀ s)
    (turn : ∀ n s', I n s' → wpAny (model prog w) A (isTrue test env (eval test env)) (fun b s₂ =>
        if b = true then wpAny (model prog w) A (execs body env) (fun f s₃ => match f with
          | .next => Hold (s'.toks ≤ s₃.toks → ∃ n', n' < n ∧ I n' s₃)
          | .cont => Hold (s'.toks ≤ s₃.toks → ∃ n', n' < n ∧ I n' s₃)
          | .brk => Q .next s₃
          | .ret v => Q (.ret v) s₃) E s₂ else Q .next s₂) E s')
    (hE : PassesOwn (model prog w) A env E := by passes_own) :
    wpAny (model prog w) A (exec (.While test body [] pos) env) Q E s := by
  refine wpAny_While (codeAny_whileLoop I ?_ n₀ h0)
  intro n s' hI
  refine wpAny_with_toks (n := s'.toks) (Nat.le_refl _) (wpAny_mono (turn n s' hI) (fun b s₂ h₂ htk2 => ?_) fun e s₂ he _ => hE e s₂ he)
  cases b with
  | false =>
    simp only [Bool.false_eq_true, if_false] at h₂ ⊢
    exact wpAny_execs_nil h₂
  | true =>
    simp only [if_true] at h₂ ⊢
    refine wpAny_with_toks (n := s'.toks) htk2 (wpAny_mono h₂ (fun f s₃ h₃ htk3 => ?_) fun e s₃ he _ => hE e s₃ he)
    cases f with
    | next => exact h₃ htk3
    | cont => exact h₃ htk3
    | brk => exact h₃
    | ret v => exact h₃
theorem frKept {h₀ h h' : Heap} {L : Addr} {m : Str → Option Value} (F : Fr h₀ L h m) (hk : ∀ b o, h.get? b = some o → h'.get? b = some o) : Fr h₀ L h' m := ⟨F.ns.keeps hk, fun b o e => hk b o (F.keep b o e), F.above⟩
theorem newsKept {h₀ h h' : Heap} {L : Addr} {news : List (Addr × Obj)} (N : News h₀ L h news) (hk : ∀ b o, h.get? b = some o → h'.get? b = some o) : News h₀ L h' news := fun p hp => ⟨hk _ _ (N p hp).1, (N p hp).2⟩
theorem gencode {M : Model} {A : Around} {E : Value → Shared → Prop} {s : Shared} {env : Env} {c P : Addr} {ps : Array Value} {pos : Pos} {q : Str} {scope : Scope} {Q : Value → Shared → Prop}
    (hc : env.code = .ref c) (hC : CodeHd s.heap c P) (hP : s.heap.get? P = some (tabObj ps)) (ht : TriplesOk ps.toList)
    (hQ : ∀ code h' tk ps', TriplesOk ps'.toList → h'.get? P = some (tabObj ps') → Heap.ExtBut P s.heap h' → Q code { s with heap := h', toks := tk }) : wpAny M A (genexprCode env pos q scope) Q E s := by
  cases hnf : codeAmong pos ps.toList with
  | none =>
    refine wpAny_genexprCodeX hc (hC.code hP ht) (hC.tab hP) hnf fun c' h' tk hb _ _ hcode _ htab _ => hQ _ h' tk _ ?_ htab.2 hb
    obtain ⟨o, vs, file, tf, flags, tg, inF, text, tt, op, ho, hd, h11, h2, h7, h9, h10, hop, hpd, htr, hne⟩ := hcode
    exact htr
  | some cv => exact wpAny_genexprCode_hit hc (hC.code hP ht) hnf (hQ _ s.heap s.toks ps ht hP (Heap.ExtBut.refl _ _))
theorem genTy {prog : Program} {w : World} {A : Around} {a : Addr} {g : Nat} {C : Addr} {fp wr : List Addr} {pz : Nat → Bool} {n : Nat} {F : Nat → Value → Prop} {i : Nat} {s : Shared} (st : GenAt prog w A a g C fp wr pz n F i s) : s.TypeIs (.ref a) "generator" := by
  obtain ⟨o, nm, qn, ho, hc, _⟩ := st.1
  exact ⟨o, ho, hc⟩
theorem pass_all (n : Nat) : passing (fun _ => true) n 0 = List.range n := by simp [passing]
theorem joinOk_of {sep : Str} {ts : List Str} (h1 : ts.length ≤ 100) (h2 : ∀ t ∈ ts, t.length ≤ 1000) (h3 : sep.length ≤ 10) : JoinOk sep ts = true := by
  unfold JoinOk Builtin.Str.tooLong
  rw [StrLaws.joinTotal]
  have hb : ∀ l : List Str, (∀ t ∈ l, t.length ≤ 1000) → (l.map (·.length)).sum ≤ l.length * 1000 := fun l => by
    induction l with
    | nil => intro _; simp
    | cons x r ih =>
      intro h
      have := ih fun t ht => h t (.tail _ ht)
      have := h x (.head _)
      simp only [List.map_cons, List.sum_cons, List.length_cons]
      omega
  have := hb ts h2
  have h4 : ts.length * sep.length ≤ 100 * 10 := Nat.mul_le_mul h1 h3
  simp only [Bool.not_eq_true', decide_eq_false_iff_not]
  unfold sizeLine
  omega
theorem strip_le (x : Str) : (Txt.strip x).length ≤ x.length := by
  unfold Txt.strip Txt.stripBy
  first
    | exact le_strSub _ _ _
    | (split <;> first | exact Nat.le_refl _ | exact le_strSub _ _ _)
theorem bind21_eq (P : Params) (vals : List Value) : bindArgs (fdAt P 21) ⟨vals, []⟩ = (newTuple vals >>= fun t => pure [((Str.ofString "args"), t)]) := by
  cases vals with
  | nil => rfl
  | cons v vs => rfl
theorem bind21 {K : Frag} {S : Setting} (P : Params) (vals : List Value) (h : vals.length ≤ sizeLine) :
    peek1 K S (bindArgs (fdAt P 21) ⟨vals, []⟩) = some (({ cls := .type "tuple", data := .seq vals.toArray } : Obj), fun D => some [(Str.ofString "args", Value.ref D)]) := by
  rw [bind21_eq]
  unfold newTuple newObj
  simp only [List.size_toArray]
  rw [if_neg (by omega)]
  rfl
theorem join_le {xs : List Str} (hn : xs.length ≤ 100) (h : ∀ x ∈ xs, x.length ≤ 1000) : (Txt.join (Str.ofString "-") ((xs.filter ne0).map Txt.strip)).length ≤ 200000 := by
  unfold Txt.join
  rw [StrLaws.glued_eq_join]
  refine Nat.le_trans (StrLaws.join_length_le _ _) ?_
  have h1 := StrLaws.sumLen_le (B := 1000) ((xs.filter ne0).map Txt.strip) fun y hy => by
    obtain ⟨z, hz, rfl⟩ := List.mem_map.mp hy
    exact Nat.le_trans (strip_le z) (h z (List.mem_filter.mp hz).1)
  have h2 : ((xs.filter ne0).map Txt.strip).length ≤ 100 := by rw [List.length_map]; exact Nat.le_trans (List.length_filter_le ..) hn
  have h3 : (Str.ofString "-").length = 1 := by decide +kernel
  rw [h3]
  omega
/-- «dst = src.replace(a, b)» -/
theorem rep_stmt {prog : Program} {w : World} {A : Around} {E : Value → Shared → Prop} {s : Shared} {h₀ : Heap} {L f : Addr} {m : Str → Option Value} {news : List (Addr × Obj)} {nm dst src a b x : Str} {sc : Scope} {cd : Value} {t : Tok}
    {p1 p2 p3 p4 p5 p6 p7 : Pos} {Q : Flow → Shared → Prop} (F : Fr h₀ L s.heap m) (N : News h₀ L s.heap news) (hm : m src = some (.str x t)) (htk : 1 ≤ s.toks) (hx : x.length ≤ 1048576) (hb : b.length ≤ 14) (hab : (a == b) = false)
    (h : ∀ h' t' tk', 1 ≤ tk' → Fr h₀ L h' (fun y => if y = dst then some (.str (Txt.replace x a b) t') else m y) → News h₀ L h' news → Q .next { s with heap := h', toks := tk' })
    (hk : sc.kind = .function := by rfl) (hs : (envOf nm sc L f cd).kindOf src = some .local := by rfl) (hd : (envOf nm sc L f cd).kindOf dst = some .local := by rfl) (hdb : (src == ("__debug__" : Str)) = false := by decide)
    (he : eval (.Call (.Attribute (.Name src p2) (Str.ofString "replace") p3) [.Constant (.str a) 0 p4, .Constant (.str b) 0 p5] [] p6) (envOf nm sc L f cd) = (do
      let ov ← eval (.Name src p2) (envOf nm sc L f cd)
      standAt p3.atName
      let (f', first) ← holding [ov] (getMethod ov (Str.ofString "replace") (do return (← importBound (.Name src p2) (envOf nm sc L f cd)).getD true))
      callWith p6 f' first (backTo p6 (starEach [.Constant (.str a) 0 p4, .Constant (.str b) 0 p5] (envOf nm sc L f cd))) []) := by rfl)
    (hsw : swapsWith (.Call (.Attribute (.Name src p2) (Str.ofString "replace") p3) [.Constant (.str a) 0 p4, .Constant (.str b) 0 p5] [] p6) (some (.Name dst p1)) p7.line (envOf nm sc L f cd) = pure false := by rfl) :
    wpAny (model prog w) A (exec (.Assign [.Name dst p1] (.Call (.Attribute (.Name src p2) (Str.ofString "replace") p3) [.Constant (.str a) 0 p4, .Constant (.str b) 0 p5] [] p6) p7) (envOf nm sc L f cd)) Q E s := by
  refine wpAny_Assign_Name ?_ hsw
  refine MethodCall_ (PyProof.Rows.ld F hm ?_ hk hs hdb) he
  refine GM.replace ?_
  refine callWith_method1 ?_
  refine args_cons (Constant_str ?_)
  refine args_cons (Constant_str ?_)
  refine args_nil ?_
  dsimp only [List.cons_append, List.nil_append]
  have h1 : 1 ≤ ({ s with toks := s.toks + 1 + 1 } : Shared).toks := by show 1 ≤ s.toks + 1 + 1; omega
  refine wpAny_with_toks h1 (SC.replaceW (Nat.ne_of_gt htk) (Nat.succ_ne_zero _) (Nat.ne_of_lt (Nat.lt_succ_self _)) hab hx hb fun t' k hk' => ?_)
  exact stN F N (fun h' F' N' => h h' t' (k + 1) (by omega) F' N') hk hd
local macro_rules | `(tactic| walk_at "eval Name") => `(tactic| (k_here; k_dflt (refine' nameX_L ?F ?v ?_ ?a ?b; (case F => k_asm); (case a => rfl); (case b => rfl); (case v => assumption); k_whole)))
local macro_rules | `(tactic| walk_at "loadName") => `(tactic| (k_here; k_dflt (refine' PyProof.Rows.ldn ?F ?v ?_ ?a ?b; (case F => k_asm); (case a => rfl); (case b => rfl); (case v => assumption); k_whole)))
local macro_rules | `(tactic| walk_at "m.no") => `(tactic| (
  (fail_if_success (with_reducible show wpAny _ _ (exec (Stmt.While _ _ _ _) _) _ _ _)); (fail_if_success (with_reducible show wpAny _ _ (exec (Stmt.For _ _ _ _ _) _) _ _ _))
  (fail_if_success (with_reducible show wpAny _ _ (call (Value.ref _) _ _) _ _ _)); (fail_if_success (with_reducible show wpAny _ _ (eval (Expr.ListComp _ _ _ _) _) _ _ _))
  (fail_if_success (with_reducible show wpAny _ _ (eval (Expr.GeneratorExp _ _ _ _) _) _ _ _)); (fail_if_success (with_reducible show wpAny _ _ (exec (Stmt.Assign _ (Expr.ListComp _ _ _ _) _) _) _ _ _))
  (fail_if_success (with_reducible show wpAny _ _ (subscriptTail _ _ (Value.ref _) _) _ _ _)); (fail_if_success (with_reducible show wpAny _ _ (compareOp _ (Value.ref _) (Value.ref _)) _ _ _))
  (fail_if_success (with_reducible show wpAny _ _ (call (Value.builtin "str.split") _ _) _ _ _)); (fail_if_success (with_reducible show wpAny _ _ (call (Value.builtin "str.join") _ _) _ _ _)); (fail_if_success (with_reducible show wpAny _ _ (call (Value.builtin "sorted") _ _) _ _ _)); (fail_if_success (with_reducible show wpAny _ _ (call (Value.type "filter") _ _) _ _ _))))
local macro_rules | `(tactic| walk_at "m.go") => `(tactic| repeat' ((walk_at "m.no"); (first | (k_unfold; (try dsimp only)) | walk1 | dsimp only)))
local macro_rules | `(tactic| walk_at "m.enter") => `(tactic| (
  (case kA => exact rfl); (case kF => exact rfl); (case kK => assumption)
  (case k1 => k_asm); (case k2 => k_asm); (case k3 => k_asm); (case k4 => k_asm); (case k5 => k_asm)
  (case k6 => k_is); (case k7 => k_is); (case k8 => ktr_room)
  (case c5 => decide); (case kB => exact locs rfl); (case c2 => exact rfl); (case c3 => exact rfl); (case c4 => exact rfl)))
theorem platform_spec (w : World) {p : Program} {loose : List Str} {mean : ExcName → Option Value} {mg mb : Str → Option Value}
  {dp un : Nat} {gd : Option (List Code)} {cn : Str} {cs : Scope} {a : Addr} {ccd : Value} {cl : List (Str × Addr)} {outer : List Env} {A₀ : Around} {base h₀ : Heap} {L : Addr} {m : Str → Option Value} {s : Shared} {Q E : Value → Shared → Prop} {news : List (Addr × Obj)}
  {vals : List Value} {xs : List Str} {ps : Array Value}
  (B : Below A₀ base outer h₀) (F : Fr h₀ L s.heap m) (X : (hd.heap_39 w.params).In h₀) (N : News h₀ L s.heap ((16, tabObj ps) :: news)) (T : Top p loose mean mg mb h₀) (hk : cs.kind = .function)
  (hC : CodeHd h₀ 20 16) (htr : TriplesOk ps.toList) (hne : ∀ p ∈ news, p.1 ≠ 16) (hgs : AllBare s.gens) (htk : 1 ≤ s.toks)
  (hv : StrsAre vals xs) (hlen : vals.length ≤ 100) (hsz : ∀ x ∈ xs, x.length ≤ 1000)
  (hd1 : dp + 4 < recursionLimit) (hu : un + 80 < cLine)
  (ret : ∀ t ps' h' tk' gs', TriplesOk ps'.toList → AllBare gs' → Fr h₀ L h' m → News h₀ L h' ((16, tabObj ps') :: news) → Q (.str (platF xs) t) { s with heap := h', toks := tk', gens := gs' }) :
  wpAny (model Challenge.rw_ph0096_01.row.prog w) (ktrTop dp un gd cn cs L a ccd cl outer) (call (.ref 21) vals) Q E s := by
  refine wpAny_call ?_
  refine' kp_rest (vs := vals) (binds := fun D => [(Str.ofString "args", Value.ref D)]) ?k1 ?k2 ?k3 ?k4 ?k5 ?kA ?kF ?kK ?k6 ?k7 ?k8 ?kV ?kP ?kG ?kB ?_ ?c2 ?c3 ?c4 ?c5
  (case kA => exact rfl); (case kF => exact rfl); (case kK => assumption)
  (case k1 => k_asm); (case k2 => k_asm); (case k3 => k_asm); (case k4 => k_asm); (case k5 => k_asm)
  (case k6 => k_is); (case k7 => k_is); (case k8 => ktr_room)
  (case kV => exact rfl); (case kP => exact bind21 w.params vals (by unfold sizeLine; omega)); (case kG => exact fun _ => rfl); (case kB => exact fun _ => locs rfl)
  (case c5 => decide); (case c2 => exact rfl); (case c3 => exact rfl); (case c4 => exact rfl)
  intro D g' L' h' l1 FG' F' N' B' X' T'
  dsimp only
  k_fold
  have hC' : CodeHd g' 20 16 := hC.keeps FG'.keep
  clear FG' F N
  walk_at "m.go"
  refine wpAny_with_toks (n := 1) (Nat.le_trans htk (Nat.le_trans (Nat.le_add_right _ _) (Nat.le_add_right _ _))) ?_
  refine wpAny_GeneratorExp_walksQ (cl := []) rfl rfl (closureFor_none (by decide)) (by decide) rfl rfl rfl (by ktr_room) ?_ (fun _ => rfl)
  walk_at "m.go"
  have hD : h'.get? D = some { cls := Value.type "tuple", data := Data.seq vals.toArray } := (N' _ (.head _)).1
  refine call_filter (items := vals.toArray) ⟨_, hD, rfl, 0, rfl⟩ ?_
  dsimp only
  intro h1 hF1 hit1 hz1 hk1
  have hDl : D < h'.objs.size := Heap.lt_size hD
  generalize hit : h'.objs.size = it at *
  have hI : it + 1 ≠ it := Nat.succ_ne_self _
  have hTt : D ≠ it := Nat.ne_of_lt hDl
  have F1 := frKept F' hk1
  have N1 := newsKept N' hk1
  have W0 : ∀ A' : Around, A'.handled = none → Walks Challenge.rw_ph0096_01.row.prog w A' (it + 1) [it + 1, it, D] [it] (xs.filter ne0).length _ (FiltAt (it + 1) it D vals xs) := fun A' hA => Walks.filt hA hI hTt hv hsz
  have st0 : FiltAt (it + 1) it D vals xs 0 h1 := ⟨hF1, ⟨_, (N1 _ (.head _)).1, rfl, 0, rfl⟩, 0, Nat.zero_le _, hit1, rfl⟩
  refine (W0 _ rfl).self 0 _ _ _ st0 ?_
  refine ⟨T'.nolimit.keeps F1.keep, ?_⟩
  have hgl : ∀ b o, g'.get? b = some o → b < it := fun b o e => hit ▸ Heap.lt_size (F'.keep b o e)
  have hLl : L' < it := hit ▸ F'.ns.lt
  have hnl : ∀ p ∈ (D, { cls := Value.type "tuple", data := Data.seq vals.toArray }) :: (16, tabObj ps) :: news, p.1 < it := fun p hp => hit ▸ Heap.lt_size (N' p hp).1
  clear F' N' hit1 hF1 hD
  have h16 : h1.get? 16 = some (tabObj ps) := (N1 _ (.tail _ (.head _))).1
  have hC1 : CodeHd h1 20 16 := hC'.keeps F1.keep
  refine gencode rfl hC1 h16 htr ?_
  intro code h2 tk2 ps2 htr2 h16' hb2
  dsimp only
  have hL16 : L' ≠ 16 := fun q => (N1 _ (.tail _ (.head _))).2.1 q.symm
  have g16 : g'.get? 16 = none := (N1 _ (.tail _ (.head _))).2.2
  have F2 := frBut F1 hb2 hL16 g16
  have N2 : News g' L' h2 ((D, { cls := Value.type "tuple", data := Data.seq vals.toArray }) :: (16, tabObj ps2) :: news) := by
    intro p hp
    rcases List.mem_cons.mp hp with rfl | hp
    · exact ⟨hb2 _ _ (fun q => absurd (l1 _ (.head _)) (by rw [← q]; exact Nat.lt_irrefl _)) (N1 _ (.head _)).1, (N1 _ (.head _)).2⟩
    · rcases List.mem_cons.mp hp with rfl | hp
      · exact ⟨h16', hL16.symm, g16⟩
      · exact ⟨hb2 _ _ (hne p hp) (N1 p (.tail _ (.tail _ hp))).1, (N1 p (.tail _ (.tail _ hp))).2⟩
  have hit16 : 16 < it := Nat.lt_trans (l1 _ (.head _)) hDl
  have st2 : FiltAt (it + 1) it D vals xs 0 h2 := (W0 callerA rfl).frame 0 _ _ st0 fun b hb o e => by
    refine hb2 b o (fun q => ?_) e
    subst q
    rcases List.mem_cons.mp hb with q | hb
    · exact Nat.ne_of_lt (Nat.lt_succ_of_lt hit16) q
    · rcases List.mem_cons.mp hb with q | hb
      · exact Nat.ne_of_lt hit16 q
      · exact Nat.ne_of_lt (l1 _ (.head _)) (List.mem_singleton.mp hb)
  obtain ⟨bm, ob, hbm1, hbm2, hbm3, hbm4, hbm5, hbm6⟩ := T'.bmain
  refine wpAny_builtinsFor (T'.g.keeps F2.keep) hbm1 hbm2 (F2.keep _ _ hbm3) hbm4 hbm5 hbm6 ?_
  clear F1 N1 hC1 h16 st0
  refine ⟨it + 1, [it + 1, it, D], [it], (xs.filter ne0).length, _, FiltAt (it + 1) it D vals xs, fun _ => true, fun i y => ∃ y0 t, y = .str (Txt.strip y0) t ∧ (xs.filter ne0)[i]? = some y0, rfl, W0, st2, ?_, T'.nolimit.keeps F2.keep, ?_, ?_, ?_⟩
  · intro b hb
    simp at hb
    rcases hb with rfl | rfl | rfl
    · exact Heap.lt_size st2.1
    · obtain ⟨_, _, j, _, ⟨o, ho, _⟩, _⟩ := st2; exact Heap.lt_size ho
    · obtain ⟨_, ⟨o, ho, _⟩, _⟩ := st2; exact Heap.lt_size ho
  · intro hb
    exact Nat.ne_of_lt (Nat.lt_trans (by decide : (2 : Nat) < 16) hit16) (List.mem_singleton.mp hb)
  · intro href hkr
    refine ⟨fun A' E' i v s₂ m₂ hA hP hns hm hfp => wpAny_pure ⟨rfl, _, _, rfl, fun _ _ e => e⟩, fun A' E' i v s₂ m₂ hA hP _ hns hm hfp => ?_⟩
    obtain ⟨y, t, rfl, hy⟩ := hP
    refine MethodCall_ (wpAny_Name (wpAny_loadName_local rfl rfl hns hm ?_) rfl)
    refine GM.strip ?_
    refine callWith_method0 ?_
    have hyx : y ∈ xs := (List.mem_filter.mp (List.mem_of_getElem? hy)).1
    refine SC.strip (fun t' k => ⟨⟨y, t', rfl, hy⟩, _, _, rfl, fun _ _ e => e⟩) (by have := hsz y hyx; unfold sizeLine; omega)
  · intro ga h3 tk3 gs3 hbare3 hlt3 hz3 hk3 W3 hg3 htk3
    dsimp only at hk3 hlt3 htk3
    walk_at "m.go"
    refine wpAny_with_toks (n := 1) htk3 ?_
    refine SC.joinGen (W3.in4_2) (fun _ _ st => genTy st) hg3 ?_ (.head _) (fun i v hv => ?_) (fun s' lt hm hacc => ?_) ?_
    · intro b hb
      dsimp only
      rw [hz3]
      rcases List.mem_cons.mp hb with rfl | hb
      · exact Nat.lt_succ_self _
      · rcases List.mem_cons.mp hb with rfl | hb
        · exact Nat.lt_succ_of_lt hlt3
        · exact Nat.lt_succ_of_lt (Nat.lt_trans (List.mem_range.mp hb) hlt3)
    · obtain ⟨i', _, y0, t, e, _⟩ := hv
      exact ⟨_, t, e⟩
    · have hl : lt.map (·.1) = (xs.filter ne0).map Txt.strip := by
        apply List.ext_getElem?
        intro j
        have hsz : lt.length = (xs.filter ne0).length := by simpa [strValues, pass_all] using hacc.1
        by_cases hj : j < lt.length
        · obtain ⟨i', hi', y0, t, e, hy0⟩ := hacc.2 j (.str lt[j].1 lt[j].2) (by simp [strValues, List.getElem?_eq_getElem hj])
          rw [pass_all] at hi'
          have : i' = j := by rw [List.getElem?_range (by omega)] at hi'; exact (Option.some.inj hi').symm
          subst this
          injection e with e1 _
          simp [List.getElem?_eq_getElem hj, e1, hy0]
        · rw [List.getElem?_eq_none (by simpa using Nat.le_of_not_lt hj), List.getElem?_eq_none (by simp only [List.length_map]; omega)]
      rw [hl]
      refine ⟨joinOk_of (by rw [List.length_map]; exact Nat.le_trans (List.length_filter_le ..) (StrsAre.length hv ▸ hlen)) (fun t ht => ?_) (by decide), fun t' k htk4 => ?_⟩
      · obtain ⟨y, hy, rfl⟩ := List.mem_map.mp ht
        exact Nat.le_trans (strip_le y) (hsz y (List.mem_filter.mp hy).1)
      · obtain ⟨h4, gs4, dr4, tk4, os4⟩ := s'
        have e1 : dr4 = s.drawn := hm.drawn
        have e2 : os4 = s.os := hm.os
        subst e1 e2
        have hmh : ∀ b o, b < it → h2.get? b = some o → h4.get? b = some o := fun b o hb e => hm.heap b o (fun q => by
          rcases List.mem_cons.mp q with q | q
          · exact Nat.ne_of_lt (Heap.lt_size e) q
          · exact Nat.ne_of_lt hb (List.mem_singleton.mp q)) (hk3 b o e)
        have hgs4 : AllBare gs4 := AllBare.movedS (fun y hy => by
          rcases Array.mem_push.mp hy with hy | rfl
          · exact hgs y hy
          · exact hbare3) hm
        have F4 : Fr g' L' h4 (fun y => List.lookup y [(Str.ofString "args", Value.ref D)].reverse) := by
          obtain ⟨oL, es, ep, hoL, r⟩ := F2.ns
          exact ⟨⟨oL, es, ep, hmh _ _ hLl hoL, r⟩, fun b o e => hmh b o (hgl b o e) (F2.keep b o e), F2.above⟩
        have N4 : News g' L' h4 ((16, tabObj ps2) :: news) := fun p hp => ⟨hmh _ _ (by
          rcases List.mem_cons.mp hp with rfl | hp
          · exact hit16
          · exact hnl p (.tail _ (.tail _ hp))) (N2 p (.tail _ hp)).1, (N2 p (.tail _ hp)).2⟩
        clear hm hacc hl hg3 W3 hk3 hz3 hlt3 hbare3 st2 hit16 N2 F2 hb2 h16' hnl hLl hgl W0 hTt hI hDl hz1 hit hk1
        dsimp only at htk4
        have hjl : (Txt.join (Str.ofString "-") ((xs.filter ne0).map Txt.strip)).length ≤ 200000 := by
          exact join_le (StrsAre.length hv ▸ hlen) hsz
        generalize hX : Txt.join (Str.ofString "-") ((xs.filter ne0).map Txt.strip) = X0 at *
        refine stN F4 N4 (fun h5 F5 N5 => ?_)
        dsimp only
        refine wpAny_execs_cons (rep_stmt F5 N5 rfl (Nat.le_succ_of_le htk4) (Nat.le_trans hjl (by decide)) (by decide) (by decide) fun h6 t6 tk6 htk6 F6 N6 => ?_)
        dsimp only
        have hl6 := Nat.le_trans (rep_le (x := X0) (a := Str.ofString " ") (b := Str.ofString "_") (by decide) (by decide)) hjl
        clear F5 N5
        refine wpAny_execs_cons (rep_stmt F6 N6 rfl htk6 (Nat.le_trans hl6 (by decide)) (by decide) (by decide) fun h7 t7 tk7 htk7 F7 N7 => ?_)
        dsimp only
        have hl7 := Nat.le_trans (rep_le (x := (Txt.replace X0 (Str.ofString " ") (Str.ofString "_"))) (a := Str.ofString "/") (b := Str.ofString "-") (by decide) (by decide)) hl6
        clear F6 N6
        refine wpAny_execs_cons (rep_stmt F7 N7 rfl htk7 (Nat.le_trans hl7 (by decide)) (by decide) (by decide) fun h8 t8 tk8 htk8 F8 N8 => ?_)
        dsimp only
        have hl8 := Nat.le_trans (rep_le (x := (Txt.replace (Txt.replace X0 (Str.ofString " ") (Str.ofString "_")) (Str.ofString "/") (Str.ofString "-"))) (a := Str.ofString "\\") (b := Str.ofString "-") (by decide) (by decide)) hl7
        clear F7 N7
        refine wpAny_execs_cons (rep_stmt F8 N8 rfl htk8 (Nat.le_trans hl8 (by decide)) (by decide) (by decide) fun h9 t9 tk9 htk9 F9 N9 => ?_)
        dsimp only
        have hl9 := Nat.le_trans (rep_le (x := (Txt.replace (Txt.replace (Txt.replace X0 (Str.ofString " ") (Str.ofString "_")) (Str.ofString "/") (Str.ofString "-")) (Str.ofString "\\") (Str.ofString "-"))) (a := Str.ofString ":") (b := Str.ofString "-") (by decide) (by decide)) hl8
        clear F8 N8
        refine wpAny_execs_cons (rep_stmt F9 N9 rfl htk9 (Nat.le_trans hl9 (by decide)) (by decide) (by decide) fun h10 t10 tk10 htk10 F10 N10 => ?_)
        dsimp only
        have hl10 := Nat.le_trans (rep_le (x := (Txt.replace (Txt.replace (Txt.replace (Txt.replace X0 (Str.ofString " ") (Str.ofString "_")) (Str.ofString "/") (Str.ofString "-")) (Str.ofString "\\") (Str.ofString "-")) (Str.ofString ":") (Str.ofString "-"))) (a := Str.ofString ";") (b := Str.ofString "-") (by decide) (by decide)) hl9
        clear F9 N9
        refine wpAny_execs_cons (rep_stmt F10 N10 rfl htk10 (Nat.le_trans hl10 (by decide)) (by decide) (by decide) fun h11 t11 tk11 htk11 F11 N11 => ?_)
        dsimp only
        have hl11 := Nat.le_trans (rep_le (x := (Txt.replace (Txt.replace (Txt.replace (Txt.replace (Txt.replace X0 (Str.ofString " ") (Str.ofString "_")) (Str.ofString "/") (Str.ofString "-")) (Str.ofString "\\") (Str.ofString "-")) (Str.ofString ":") (Str.ofString "-")) (Str.ofString ";") (Str.ofString "-"))) (a := Str.ofString "\"") (b := Str.ofString "-") (by decide) (by decide)) hl10
        clear F10 N10
        refine wpAny_execs_cons (rep_stmt F11 N11 rfl htk11 (Nat.le_trans hl11 (by decide)) (by decide) (by decide) fun h12 t12 tk12 htk12 F12 N12 => ?_)
        dsimp only
        have hl12 := Nat.le_trans (rep_le (x := (Txt.replace (Txt.replace (Txt.replace (Txt.replace (Txt.replace (Txt.replace X0 (Str.ofString " ") (Str.ofString "_")) (Str.ofString "/") (Str.ofString "-")) (Str.ofString "\\") (Str.ofString "-")) (Str.ofString ":") (Str.ofString "-")) (Str.ofString ";") (Str.ofString "-")) (Str.ofString "\"") (Str.ofString "-"))) (a := Str.ofString "(") (b := Str.ofString "-") (by decide) (by decide)) hl11
        clear F11 N11
        refine wpAny_execs_cons (rep_stmt F12 N12 rfl htk12 (Nat.le_trans hl12 (by decide)) (by decide) (by decide) fun h13 t13 tk13 htk13 F13 N13 => ?_)
        dsimp only
        have hl13 := Nat.le_trans (rep_le (x := (Txt.replace (Txt.replace (Txt.replace (Txt.replace (Txt.replace (Txt.replace (Txt.replace X0 (Str.ofString " ") (Str.ofString "_")) (Str.ofString "/") (Str.ofString "-")) (Str.ofString "\\") (Str.ofString "-")) (Str.ofString ":") (Str.ofString "-")) (Str.ofString ";") (Str.ofString "-")) (Str.ofString "\"") (Str.ofString "-")) (Str.ofString "(") (Str.ofString "-"))) (a := Str.ofString ")") (b := Str.ofString "-") (by decide) (by decide)) hl12
        clear F12 N12
        refine wpAny_execs_cons (rep_stmt F13 N13 rfl htk13 (Nat.le_trans hl13 (by decide)) (by decide) (by decide) fun h14 t14 tk14 htk14 F14 N14 => ?_)
        dsimp only
        have hl14 := Nat.le_trans (rep_le (x := (Txt.replace (Txt.replace (Txt.replace (Txt.replace (Txt.replace (Txt.replace (Txt.replace (Txt.replace X0 (Str.ofString " ") (Str.ofString "_")) (Str.ofString "/") (Str.ofString "-")) (Str.ofString "\\") (Str.ofString "-")) (Str.ofString ":") (Str.ofString "-")) (Str.ofString ";") (Str.ofString "-")) (Str.ofString "\"") (Str.ofString "-")) (Str.ofString "(") (Str.ofString "-")) (Str.ofString ")") (Str.ofString "-"))) (a := Str.ofString "unknown") (b := Str.ofString "") (by decide) (by decide)) hl13
        clear F13 N13
        have eX : rep1 X0 = rep1 X0 := rfl
        conv at eX => rhs; unfold rep1
        generalize hY : Txt.replace (Txt.replace (Txt.replace (Txt.replace (Txt.replace (Txt.replace (Txt.replace (Txt.replace (Txt.replace X0 (Str.ofString " ") (Str.ofString "_")) (Str.ofString "/") (Str.ofString "-")) (Str.ofString "\\") (Str.ofString "-")) (Str.ofString ":") (Str.ofString "-")) (Str.ofString ";") (Str.ofString "-")) (Str.ofString "\"") (Str.ofString "-")) (Str.ofString "(") (Str.ofString "-")) (Str.ofString ")") (Str.ofString "-")) (Str.ofString "unknown") (Str.ofString "") = Y at *
        clear hl6 hl7 hl8 hl9 hl10 hl11 hl12 hl13 htk6 htk7 htk8 htk9 htk10 htk11 htk12 htk13 hY
        refine wpAny_execs_cons (While_any (fun n s' => ∃ h tk m₁ y t, s' = { s with heap := h, toks := tk, gens := gs4 } ∧ 1 ≤ tk ∧ Fr g' L' h m₁ ∧ News g' L' h ((16, tabObj ps2) :: news) ∧ m₁ "platform" = some (.str y t) ∧ n = y.length ∧ sq y.cps.toList = sq Y.cps.toList ∧ y.length ≤ 200000) ⟨_, _, _, Y, _, rfl, htk14, F14, N14, rfl, rfl, rfl, hl14⟩ ?_)
        clear F14 N14 htk14 F4 N4
        rintro n s' ⟨h6, tk6, m₁, y, t6, rfl, htk6, F6, N6, e1, rfl, e2, e3⟩
        walk_at "m.go"
        refine wpAny_with_toks (n := 1) (Nat.le_add_left 1 _) (SC.replaceW (Nat.ne_of_gt htk6) (Nat.succ_ne_zero _) (Nat.ne_of_lt (Nat.lt_succ_self _)) (by decide) (Nat.le_trans e3 (by decide)) (by decide) fun t7 tk7 htk7 => ?_)
        dsimp only at htk7
        walk_at "m.go"
        · (rename Fr _ _ _ _ => F8); (rename News _ _ _ _ => N8)
          have hfix : Txt.replace y (Str.ofString "--") (Str.ofString "-") = y := eq_of_beq (by assumption)
          have ey : y.cps.toList = sq Y.cps.toList := by rw [← dd_fix hfix, e2]
          refine While_any (fun n s' => ∃ h tk m₁ z t, s' = { s with heap := h, toks := tk, gens := gs4 } ∧ Fr g' L' h m₁ ∧ News g' L' h ((16, tabObj ps2) :: news) ∧ m₁ "platform" = some (.str z t) ∧ n = z.length ∧ rdash z.cps.toList = rdash (sq Y.cps.toList) ∧ z.length ≤ 200000) ⟨_, _, _, y, _, rfl, F8, N8, e1, rfl, by rw [ey], e3⟩ ?_
          clear F8 N8
          rintro n s' ⟨h9, tk9, m₂, z, t9, rfl, F9, N9, e4, rfl, e5, e6⟩
          walk_at "m.go"
          · (rename Fr _ _ _ _ => F8); (rename News _ _ _ _ => N8)
            intro _
            have hz0 : z.length ≠ 0 := by omega
            have hit : (Txt.item z (-1) == Str.ofString "-") = true := by assumption
            exact ⟨_, slice_last_lt hz0, _, _, _, _, _, rfl, F8, N8, rfl, rfl, by rw [← e5]; exact rdash_yes hz0 hit, by have := slice_last_lt hz0; omega⟩
          · (rename Fr h₀ _ _ _ => F8); (rename News h₀ _ _ _ => N8)
            have hz0 : z.length ≠ 0 := by omega
            have hit : (Txt.item z (-1) == Str.ofString "-") = false := by assumption
            have hz : platF xs = z := plat_is hX eX ((rdash_no hz0 hit).symm.trans e5)
            rw [← hz]
            exact ret _ _ _ _ _ htr2 hgs4 F8 N8
          · (rename Fr h₀ _ _ _ => F8); (rename News h₀ _ _ _ => N8)
            have hz0 : z.length = 0 := by omega
            have hz : platF xs = z := plat_is hX eX ((rdash_nil hz0).symm.trans e5)
            rw [← hz]
            exact ret _ _ _ _ _ htr2 hgs4 F8 N8
        · (rename Fr _ _ _ _ => F8); (rename News _ _ _ _ => N8)
          have hnf : Txt.replace y (Str.ofString "--") (Str.ofString "-") ≠ y := fun q => by simp_all
          have := dd_lt hnf
          intro htk8
          exact ⟨_, this, _, _, _, _, _, rfl, Nat.le_trans htk6 htk8, F8, N8, rfl, rfl, by rw [dd_sq, e2], by omega⟩
    · rw [pass_all, List.length_range]
      have := List.length_filter_le ne0 xs
      have := StrsAre.length hv
      unfold sizeLine
      omega
end Mine
end

section
open PySem PySem.W PyProof.Rows PySem.Calls PySem.Spec
set_option maxHeartbeats 8000000
namespace Mine
def codesOf (x : Int) : List Nat := ([0, 1, 2, 5].getD (x / 8 % 4).toNat 0) :: (List.range (x / 2 % 4).toNat).map fun k => (x / 32 / 8 ^ k % 8).toNat
def signOf (x : Int) : Str := Txt.item (Str.ofString "/\\:;\"()") (x.fmod 7)
def factOf (g : Str) (c : Nat) : Str := [Str.ofString "a", Str.ofString "b", Str.ofString "a b", Str.ofString " b" ++ g ++ Str.ofString "a ", Str.ofString "unknown", Str.ofString "a.b", Str.ofString "unknownb" ++ g ++ Str.ofString "unknown", Str.ofString ""].getD c Str.empty
def fieldOf (c : Nat) : List Str := [[Str.ofString "a"], [Str.ofString "b"], [Str.ofString "a_b"], [Str.ofString "b", Str.ofString "a"], [], [Str.ofString "a.b"], [Str.ofString "b"], []].getD c []
def factsOf (x : Int) : List Str := Str.ofString "" :: (codesOf x).map (factOf (signOf x))
def fieldsOf (x : Int) : List Str := (codesOf x).flatMap fieldOf
open LCg LCt
local macro_rules | `(tactic| walk_at "eval Name") => `(tactic| (k_here; (fail_if_success (with_reducible show wpAny _ _ (eval (Expr.Name _ _) (compEnvC _ _ _ _)) _ _ _)); k_dflt (refine' nameX_L ?F ?v ?_ ?a ?b; (case F => k_asm); (case a => rfl); (case b => rfl); (case v => assumption); k_whole)))
local macro_rules | `(tactic| walk_at "loadName") => `(tactic| (k_here; k_dflt (refine' PyProof.Rows.ldn ?F ?v ?_ ?a ?b; (case F => k_asm); (case a => rfl); (case b => rfl); (case v => assumption); k_whole)))
local macro_rules | `(tactic| walk_at "m.no") => `(tactic| (
  (fail_if_success (with_reducible show wpAny _ _ (exec (Stmt.While _ _ _ _) _) _ _ _)); (fail_if_success (with_reducible show wpAny _ _ (exec (Stmt.For _ _ _ _ _) _) _ _ _))
  (fail_if_success (with_reducible show wpAny _ _ (call (Value.ref _) _ _) _ _ _)); (fail_if_success (with_reducible show wpAny _ _ (eval (Expr.ListComp _ _ _ _) _) _ _ _))
  (fail_if_success (with_reducible show wpAny _ _ (eval (Expr.GeneratorExp _ _ _ _) _) _ _ _)); (fail_if_success (with_reducible show wpAny _ _ (exec (Stmt.Assign _ (Expr.ListComp _ _ _ _) _) _) _ _ _))
  (fail_if_success (with_reducible show wpAny _ _ (subscriptTail _ _ (Value.ref _) _) _ _ _)); (fail_if_success (with_reducible show wpAny _ _ (compareOp _ (Value.ref _) (Value.ref _)) _ _ _))
  (fail_if_success (with_reducible show wpAny _ _ (call (Value.builtin "str.split") _ _) _ _ _)); (fail_if_success (with_reducible show wpAny _ _ (call (Value.builtin "str.join") _ _) _ _ _)); (fail_if_success (with_reducible show wpAny _ _ (call (Value.builtin "sorted") _ _) _ _ _)); (fail_if_success (with_reducible show wpAny _ _ (call (Value.type "filter") _ _) _ _ _))))
local macro_rules | `(tactic| walk_at "m.go") => `(tactic| repeat' ((walk_at "m.no"); (first | (k_unfold; (try dsimp only)) | walk1 | dsimp only)))
local macro_rules | `(tactic| walk_at "m.enter") => `(tactic| (
  (case kA => exact rfl); (case kF => exact rfl); (case kK => assumption)
  (case k1 => k_asm); (case k2 => k_asm); (case k3 => k_asm); (case k4 => k_asm); (case k5 => k_asm)
  (case k6 => k_is); (case k7 => k_is); (case k8 => ktr_room)
  (case c5 => decide); (case kB => exact locs rfl); (case c2 => exact rfl); (case c3 => exact rfl); (case c4 => exact rfl)))
theorem codes_len (x : Int) : (codesOf x).length ≤ 4 := by
  unfold codesOf
  rw [List.length_cons, List.length_map, List.length_range]
  omega
theorem allLt_mem {d : Addr} : ∀ {l : List (Addr × Obj)}, AllLt d l → ∀ p ∈ l, p.1 < d
  | [], _, _, h => nomatch h
  | q :: l, h, p, hp => by
    rcases List.mem_cons.mp hp with e | hp
    · subst e; exact h.1
    · exact allLt_mem h.2 p hp
theorem fr_size {h₀ h : Heap} {L : Addr} {m : Str → Option Value} (F : Fr h₀ L h m) : ∃ I : Addr, I = h.objs.size := ⟨_, rfl⟩
theorem codes_lt {x : Int} {i c : Nat} (h : (codesOf x)[i]? = some c) : c < 8 := by
  have hm := List.mem_of_getElem? h
  unfold codesOf at hm
  rcases List.mem_cons.mp hm with e | hm
  · subst e
    generalize (x / 8 % 4).toNat = k
    rcases k with _ | _ | _ | _ | k <;> simp
  · obtain ⟨k, _, e⟩ := List.mem_map.mp hm
    subst e
    have := Int.emod_lt_of_pos (x / 32 / 8 ^ k) (b := 8) (by decide)
    have := Int.emod_nonneg (x / 32 / 8 ^ k) (b := 8) (by decide)
    generalize x / 32 / 8 ^ k % 8 = q at *
    omega
theorem fr_ref {h₀ h : Heap} {L l : Addr} {m : Str → Option Value} (F : Fr h₀ L h m) (x : Str) (hx : m x = some (.ref l)) : ∃ fa : Addr, fa = l := ⟨l, rfl⟩
local macro_rules | `(tactic| walk_at "m.noc") => `(tactic| ((walk_at "m.no"); (fail_if_success (with_reducible show CompSrc _ _ _ _ _ _ _ _ _ _ _ _ _ _)); (fail_if_success (with_reducible show CompEnd _ _ _ _ _ _ _ _ _ _ _ _ _ _))))
local macro_rules | `(tactic| walk_at "m.goc") => `(tactic| repeat' ((walk_at "m.noc"); (first | (k_unfold; (try dsimp only)) | walk1 | dsimp only)))
theorem codes_int (x : Int) : (codesOf x).map (fun (c : Nat) => (c : Int)) = [[0, 1, 2, 5].getD ((x.fdiv 8).fmod 4).toNat 0] ++ (List.range ((x.fdiv 2).fmod 4).toNat).map fun k => ((x.fdiv 32).fdiv (8 ^ k)).fmod 8 := by
  unfold codesOf
  have e1 : (x.fdiv 8).fmod 4 = x / 8 % 4 := by rw [Int.fdiv_eq_ediv_of_nonneg _ (by decide), Int.fmod_eq_emod_of_nonneg _ (by decide)]
  have e2 : (x.fdiv 2).fmod 4 = x / 2 % 4 := by rw [Int.fdiv_eq_ediv_of_nonneg _ (by decide), Int.fmod_eq_emod_of_nonneg _ (by decide)]
  rw [e1, e2, List.map_cons, List.map_map]
  have e3 : ∀ i : Nat, (([0, 1, 2, 5] : List Nat).getD i 0 : Int) = ([0, 1, 2, 5] : List Int).getD i 0 := fun i => by
    rcases i with _ | _ | _ | _ | i <;> rfl
  rw [e3]
  show _ :: _ = _ :: _
  congr 1
  refine List.map_congr_left fun k _ => ?_
  have h8 : (0 : Int) ≤ 8 ^ k := Int.pow_nonneg (by decide)
  have e4 : ((x.fdiv 32).fdiv (8 ^ k)).fmod 8 = x / 32 / 8 ^ k % 8 := by rw [Int.fdiv_eq_ediv_of_nonneg _ h8, Int.fdiv_eq_ediv_of_nonneg _ (by decide), Int.fmod_eq_emod_of_nonneg _ (by decide)]
  rw [e4]
  show (((x / 32 / 8 ^ k % 8).toNat : Nat) : Int) = _
  have := Int.emod_nonneg (x / 32 / 8 ^ k) (b := 8) (by decide)
  omega
theorem sign_len (x : Int) : (signOf x).length = 1 := rfl
theorem fdm (a : Int) (m : Int) (h : 0 < m) : 0 ≤ a.fmod m ∧ a.fmod m < m := ⟨Int.fmod_nonneg_of_pos a h, Int.fmod_lt_of_pos a h⟩
local macro_rules | `(tactic| walk_at "m8") => `(tactic| (first | exact (fdm _ _ (by decide)).1 | exact (fdm _ _ (by decide)).2 | exact Int.lt_trans (fdm _ _ (by decide)).2 (by decide)))
theorem machine_spec (w : World) {p : Program} {loose : List Str} {mean : ExcName → Option Value} {mg mb : Str → Option Value}
  {dp un : Nat} {gd : Option (List Code)} {cn : Str} {cs : Scope} {a : Addr} {ccd : Value} {cl : List (Str × Addr)} {outer : List Env} {A₀ : Around} {base h₀ : Heap} {L : Addr} {m : Str → Option Value} {s : Shared} {Q E : Value → Shared → Prop} {news : List (Addr × Obj)}
  {x : Int} {tx : Tok}
  (B : Below A₀ base outer h₀) (F : Fr h₀ L s.heap m) (X : (hd.heap_39 w.params).In h₀) (N : News h₀ L s.heap news) (T : Top p loose mean mg mb h₀) (hk : cs.kind = .function)
  (hd1 : dp + 8 < recursionLimit) (hu : un + 120 < cLine)
  (ret : ∀ t h' tk' fa fi fv gv nf ng tn, StrsAre fv (factsOf x) → StrsAre gv (fieldsOf x) → (∀ p ∈ news, p.1 < fa) → fa < fi → fi < t → Fr h₀ L h' m → News h₀ L h' ((t, { cls := .type "tuple", data := .seq #[.ref fa, .ref fi] tn }) :: (fa, PySem.W.listOf fv.toArray nf) :: (fi, PySem.W.listOf gv.toArray ng) :: news) → Q (.ref t) { s with heap := h', toks := tk' }) :
  wpAny (model Challenge.rw_ph0096_01.row.prog w) (ktrTop dp un gd cn cs L a ccd cl outer) (call (.ref 62) [.int x tx]) Q E s := by
  refine wpAny_call ?_
  refine' code_defC (binds := [("x", .int x tx)]) ?k1 ?k2 ?k3 ?k4 ?k5 ?kA ?kF ?kK ?k6 ?k7 ?k8 ?k9 ?kB ?kD ?_ ?c2 ?c3 ?c4
  (case kA => exact rfl); (case kF => exact rfl); (case kK => assumption); (case k1 => k_asm); (case k2 => k_asm); (case k3 => k_asm); (case k4 => k_asm); (case k5 => k_asm); (case k6 => k_is); (case k7 => k_is); (case k8 => ktr_room)
  (case k9 => exact BindsTo.of_eq rfl); (case kB => exact rfl); (case kD => decide +kernel); (case c2 => exact rfl); (case c3 => exact rfl); (case c4 => exact rfl)
  intro g' L' h' tk' cells' FG' F' N' Y' B' X' T' l1
  k_cells Y'
  (try simp only [List.cons_append, List.nil_append] at N')
  (try dsimp only)
  (try k_lift B')
  (try k_fold)
  clear FG' F N
  (rename Obj.data _ = Data.cell _ => d1)
  change _ = Data.cell (some (.int x tx)) at d1
  change Fr _ _ _ (fun _ => none) at F'
  walk_at "m.go"
  refine tup_ints (ns := [0, 1, 2, 5]) (isT (by k_asm) (.head _)) (.cons _ _ (.cons _ _ (.cons _ _ (.cons _ _ .nil)))) ?_ ?_ ?_ ?_
  · walk_at "m8"
  · walk_at "m8"
  · walk_at "m8"
  intro t0
  walk_at "m.go"
  refine LCg.ListComp_U (F₀ := by k_asm) (by rfl) (by decide) (by rfl) (by decide) (by rfl) ?_
  walk_at "m.goc"
  rename IsRange _ _ _ _ _ _ _ _ => hR
  (rename Fr _ _ _ _ => F2); (rename News _ _ _ _ => N2)
  have hn0 := (fdm (x.fdiv 2) 4 (by decide)).1
  have hn4 := (fdm (x.fdiv 2) 4 (by decide)).2
  generalize hq : (x.fdiv 2).fmod 4 = q at *
  obtain ⟨n, rfl⟩ : ∃ n : Nat, q = n := ⟨q.toNat, by omega⟩
  have hn : n < 4 := by omega
  have q1 : Builtin.Range.small 0 (n : Int) 1 = true := small_one (by decide) (by decide) (by omega) (by omega)
  have q2 : Builtin.Range.rangeSize 0 (n : Int) 1 = ((n : Nat) : Int) := by
    rw [rangeSize_one]
    split <;> omega
  refine CompSrc.range (n := n) rfl F2 N2 hR q1 q2 (Nat.le_trans (Nat.le_of_lt hn) (by unfold sizeLine; omega)) fun g => ?_
  refine CompRest_inv (fun i ys nw => nw = _ ∧ IntsAre ys ((List.range i).map fun k => ((x.fdiv 32).fdiv (8 ^ k)).fmod 8)) ?_ ?_ n 0 [] _ (Nat.zero_add n) ⟨rfl, .nil⟩
  · rintro i ys _ hi ⟨rfl, hys⟩ v I oI C oC D m₂ h tk E' ⟨tv, rfl⟩ hC' hx' F' N' off' ne'
    clear F2 N2 hR
    rcases i with _ | _ | _ | i
    · have hx0 : m₂ (Str.ofString "k") = some (.int 0 tv) := by simpa using hx'
      clear hx'
      dsimp only at F' N' ⊢
      walk_at "m.goc"
      (rename Fr _ _ _ _ => F4); (rename News _ _ _ _ => N4)
      refine CompEnd.intro F4 N4 _ (fun p hp => hp) off' trivial ⟨rfl, ?_⟩
      rw [List.range_succ, List.map_append]
      exact IntsAre.append hys (.cons _ _ .nil)
    · have hx0 : m₂ (Str.ofString "k") = some (.int 1 tv) := by simpa using hx'
      clear hx'
      dsimp only at F' N' ⊢
      walk_at "m.goc"
      (rename Fr _ _ _ _ => F4); (rename News _ _ _ _ => N4)
      refine CompEnd.intro F4 N4 _ (fun p hp => hp) off' trivial ⟨rfl, ?_⟩
      rw [List.range_succ, List.map_append]
      exact IntsAre.append hys (.cons _ _ .nil)
    · have hx0 : m₂ (Str.ofString "k") = some (.int 2 tv) := by simpa using hx'
      clear hx'
      dsimp only at F' N' ⊢
      walk_at "m.goc"
      (rename Fr _ _ _ _ => F4); (rename News _ _ _ _ => N4)
      refine CompEnd.intro F4 N4 _ (fun p hp => hp) off' trivial ⟨rfl, ?_⟩
      rw [List.range_succ, List.map_append]
      exact IntsAre.append hys (.cons _ _ .nil)
    · omega
  · rintro ys _ ⟨rfl, hys⟩ D h tk F3 N3 o1
    have hyl : ys.length = n := by rw [IntsAre.length hys, List.length_map, List.length_range]
    clear F2 N2 hR
    walk_at "m.goc"
    refine add_arrays F3 N3 (isL N3 (.tail _ (.head _))) (isL N3 (.head _)) ?_ (hsz := by rw [List.size_toArray, List.size_toArray, hyl]; unfold sizeLine; simp; omega)
    intro h2 F4 N4
    dsimp only at F4 N4 ⊢
    replace N4 : News g' L' h2 ((h.objs.size, PySem.W.listOf ([Value.int ([0, 1, 2, 5].getD ((x.fdiv 8).fmod 4).toNat 0) t0] ++ ys).toArray 0) :: _) := N4
    have hcs : IntsAre ([Value.int ([0, 1, 2, 5].getD ((x.fdiv 8).fmod 4).toNat 0) t0] ++ ys) ((codesOf x).map fun (c : Nat) => (c : Int)) := by
      rw [codes_int, hq]
      exact IntsAre.append (.cons _ _ .nil) hys
    generalize [Value.int ([0, 1, 2, 5].getD ((x.fdiv 8).fmod 4).toNat 0) t0] ++ ys = vs at *
    clear hys hyl q1 q2 hn hn0 hn4 hq o1 F3 N3
    walk_at "m.go"
    clear d1
    refine wpAny_For ?_
    walk_at "m.go"
    (rename Fr _ _ _ _ => F1); (rename News _ _ _ _ => N1)
    obtain ⟨fa, efa⟩ := fr_ref F1 "facts" rfl
    subst efa
    obtain ⟨fi, efi⟩ := fr_ref F1 "fields" rfl
    subst efi
    have hlt1 : @LT.lt Nat _ fa fi := by omega
    have hlt2 : @LT.lt Nat _ h.objs.size fa := by omega
    have hlt3 := allLt_mem (by assumption : _ ∧ _ ∧ _ ∧ _ ∧ _ ∧ AllLt fa news).2.2.2.2.2
    have hlt4 := allLt_mem (by assumption : _ ∧ _ ∧ _ ∧ _ ∧ _ ∧ _ ∧ AllLt fi news).2.2.2.2.2.2
    generalize h.objs.size = lc at *
    have hL := isL (vs := vs) N1 (.tail _ (.tail _ (.tail _ (.head _))))
    have N1' : News g' L' _ ((fi, PySem.W.listOf ([] : List Value).toArray 0) :: (fa, PySem.W.listOf [Value.str (Str.ofString "") _].toArray 0) :: (lc, PySem.W.listOf vs.toArray 0) :: news) := fun p hp => N1 p (by
      rcases List.mem_cons.mp hp with rfl | hp
      · exact .tail _ (.head _)
      · rcases List.mem_cons.mp hp with rfl | hp
        · exact .tail _ (.tail _ (.head _))
        · rcases List.mem_cons.mp hp with rfl | hp
          · exact .tail _ (.tail _ (.tail _ (.head _)))
          · exact .tail _ (.tail _ (.tail _ (.tail _ (.tail _ (.tail _ (.tail _ (.tail _ hp))))))))
    clear N1
    refine wpAny_pyIter_list hL ?_
    have N2 := News.push F1 N1' { cls := .type "list_iterator", data := .fields #[.ref lc, .int 0 0] }
    have F2 := F1.push { cls := .type "list_iterator", data := .fields #[.ref lc, .int 0 0] }
    have hIne := fun p hp => Nat.ne_of_lt (Heap.lt_size (N1' p hp).1)
    obtain ⟨I, eI⟩ := fr_size F1
    simp only [← eI] at N2 hIne ⊢
    clear eI hL
    refine For_led (nm := _) (n := vs.length) (Ob := LOb lc) (P := fun i v => vs[i]? = some v)
      (fun i m nw gs => gs = s.gens ∧ ∃ fv gv nf ng ts, nw = (fi, PySem.W.listOf gv.toArray ng) :: (fa, PySem.W.listOf fv.toArray nf) :: (lc, PySem.W.listOf vs.toArray 0) :: news ∧ StrsAre fv (Str.ofString "" :: ((codesOf x).take i).map (factOf (signOf x))) ∧ StrsAre gv (((codesOf x).take i).flatMap fieldOf) ∧ fv.length ≤ i + 1 ∧ gv.length ≤ 2 * i ∧
        m "facts" = some (.ref fa) ∧ m "fields" = some (.ref fi) ∧ m "sign" = some (.str (signOf x) ts))
      ?_ F2 N2 ⟨rfl, rfl⟩ ⟨rfl, _, _, _, _, _, rfl, .cons _ _ .nil, .nil, Nat.le_refl _, Nat.le_refl _, rfl, rfl, rfl⟩ ?_ ?_ ?_ ?_
    · rintro i m nw gs ⟨_, fv, gv, nf, ng, ts, rfl, _⟩ p hp
      rcases List.mem_cons.mp hp with rfl | hp
      · have q := hIne _ (List.Mem.head _); exact q
      · rcases List.mem_cons.mp hp with rfl | hp
        · have q := hIne _ (List.Mem.tail _ (List.Mem.head _)); exact q
        · exact hIne p (.tail _ (.tail _ hp))
    · rintro i m nw gs h tk o Q' E' hi ⟨_, fv, gv, nf, ng, ts, rfl, _⟩ F3 N3 ho q
      exact list_step (List.getElem?_eq_getElem hi) (isL N3 (.tail _ (.tail _ (.tail _ (.head _))))) N3 ho q
    · rintro m nw gs h tk o Q' E' ⟨_, fv, gv, nf, ng, ts, rfl, _⟩ F3 N3 ho q
      exact list_stop rfl (isL N3 (.tail _ (.tail _ (.tail _ (.head _))))) N3 ho q
    · rintro i v m nw gs h tk o hi hv ⟨rfl, fv, gv, nf, ng, ts, rfl, hfv, hgv, lfv, lgv, em1, em2, em3⟩ F3 N3 ho htk3
      have hlen : vs.length = (codesOf x).length := by rw [IntsAre.length hcs, List.length_map]
      obtain ⟨t5, e5⟩ := ints_at hcs i (by rw [← IntsAre.length hcs]; exact hi)
      rw [e5] at hv
      obtain rfl := Option.some.inj hv
      obtain ⟨c, hc⟩ : ∃ c, (codesOf x)[i]? = some c := ⟨_, List.getElem?_eq_getElem (hlen ▸ hi)⟩
      have hc8 := codes_lt hc
      have hc4 := codes_len x
      have e6 : ((codesOf x).map fun (c : Nat) => (c : Int)).getD i 0 = (c : Int) := by simp [List.getD, hc]
      rw [e6] at e5 F3
      clear e6 hv
      walk_at "m.go"
      (rename Fr _ _ _ _ => F4); (rename News _ _ _ _ => N4)
      refine tup_strs (ns := [Str.ofString "a", Str.ofString "b", Str.ofString "a b", Str.ofString " b" ++ signOf x ++ Str.ofString "a ", Str.ofString "unknown", Str.ofString "a.b", Str.ofString "unknownb" ++ signOf x ++ Str.ofString "unknown", Str.ofString ""]) (isT N4 (.head _)) (.cons _ _ (.cons _ _ (.cons _ _ (.cons _ _ (.cons _ _ (.cons _ _ (.cons _ _ (.cons _ _ .nil)))))))) (by omega) (by simp only [List.length_cons, List.length_nil]; omega) (by omega) ?_
      intro t6
      have e7 : (((c : Nat) : Int).toNat) = c := Int.toNat_natCast c
      rw [e7]
      generalize hF : ([Str.ofString "a", Str.ofString "b", Str.ofString "a b", Str.ofString " b" ++ signOf x ++ Str.ofString "a ", Str.ofString "unknown", Str.ofString "a.b", Str.ofString "unknownb" ++ signOf x ++ Str.ofString "unknown", Str.ofString ""] : List Str).getD c Str.empty = fc
      replace hF : factOf (signOf x) c = fc := hF
      walk_at "m.go"
      refine append_led F4 N4 (ys := fv) (n := nf) (.tail _ (.tail _ (.tail _ (.head _)))) (by omega) ?_
      intro h5 F5 N5
      have nIfa : I ≠ fa := fun q => hIne _ (List.Mem.tail _ (List.Mem.head _)) q.symm
      have nfifa : fi ≠ fa := Nat.ne_of_gt hlt1
      have nlcfa : lc ≠ fa := Nat.ne_of_lt hlt2
      have nIfi : I ≠ fi := fun q => hIne _ (List.Mem.head _) q.symm
      have nlcfi : lc ≠ fi := Nat.ne_of_lt (Nat.lt_trans hlt2 hlt1)
      have N6 : News g' L' h5 ((I, o) :: (fi, PySem.W.listOf gv.toArray ng) :: (fa, PySem.W.listOf (fv ++ [Value.str fc t6]).toArray (nf + 1)) :: (lc, PySem.W.listOf vs.toArray 0) :: news) := fun p hp => N5 p (by
        rcases List.mem_cons.mp hp with rfl | hp
        · exact updL_ne (.tail _ (.head _)) nIfa
        · rcases List.mem_cons.mp hp with rfl | hp
          · exact updL_ne (.tail _ (.tail _ (.head _))) nfifa
          · rcases List.mem_cons.mp hp with rfl | hp
            · exact updL_self (.tail _ (.tail _ (.tail _ (.head _))))
            · rcases List.mem_cons.mp hp with rfl | hp
              · exact updL_ne (.tail _ (.tail _ (.tail _ (.tail _ (.head _))))) nlcfa
              · exact updL_ne (.tail _ (.tail _ (.tail _ (.tail _ (.tail _ hp))))) (Nat.ne_of_lt (hlt3 p hp)))
      clear N5 N4 F4
      have hfv' : StrsAre (fv ++ [Value.str fc t6]) (Str.ofString "" :: ((codesOf x).take (i + 1)).map (factOf (signOf x))) := by
        rw [List.take_add_one, hc, List.map_append, ← hF]
        exact StrsAre.append' hfv (.cons _ _ .nil)
      have hgv' : ∀ zs, StrsAre zs (fieldOf c) → StrsAre (gv ++ zs) (((codesOf x).take (i + 1)).flatMap fieldOf) := fun zs hz => by
        rw [List.take_add_one, hc, List.flatMap_append]
        refine StrsAre.append' hgv ?_
        simpa using hz
      iterate 4 (first | (k_unfold; (try dsimp only)) | walk1 | dsimp only)
      refine kl_method N6 (.tail _ (.head _)) PySem.F.slot_list_extend PySem.F.type_list_extend ?_
      refine callWith_method1 ?_
      refine args_cons ?_
      walk_at "m.go"
      (rename Fr _ _ _ _ => F7); (rename News _ _ _ _ => N7)
      have fin : ∀ (zs : List Value) (h' : Heap) (n' tk' : Nat) (m' : Str → Option Value), StrsAre zs (fieldOf c) → zs.length ≤ 2 → m' "facts" = some (.ref fa) → m' "fields" = some (.ref fi) → m' "sign" = some (.str (signOf x) ts) → Fr g' L' h' m' → (∀ p ∈ (I, o) :: (fi, PySem.W.listOf (gv ++ zs).toArray n') :: (fa, PySem.W.listOf (fv ++ [Value.str fc t6]).toArray (nf + 1)) :: (lc, PySem.W.listOf vs.toArray 0) :: news, h'.get? p.1 = some p.2 ∧ p.1 ≠ L' ∧ g'.get? p.1 = none) → ∃ m'' nw'' gs'' h'' tk'' o'', ({ s with heap := h', toks := tk' } : Shared) = { s with heap := h'', toks := tk'', gens := gs'' } ∧ Fr g' L' h'' m'' ∧ News g' L' h'' ((I, o'') :: nw'') ∧ LOb lc (i + 1) o'' ∧ (gs'' = s.gens ∧ ∃ fv gv nf ng ts, nw'' = (fi, PySem.W.listOf gv.toArray ng) :: (fa, PySem.W.listOf fv.toArray nf) :: (lc, PySem.W.listOf vs.toArray 0) :: news ∧ StrsAre fv (Str.ofString "" :: ((codesOf x).take (i + 1)).map (factOf (signOf x))) ∧ StrsAre gv (((codesOf x).take (i + 1)).flatMap fieldOf) ∧ fv.length ≤ i + 1 + 1 ∧ gv.length ≤ 2 * (i + 1) ∧
        m'' "facts" = some (.ref fa) ∧ m'' "fields" = some (.ref fi) ∧ m'' "sign" = some (.str (signOf x) ts)) := fun zs h' n' tk' m' hz hl q1 q2 q3 F9 N9 =>
        ⟨m', _, s.gens, h', tk', o, rfl, F9, N9, ho, rfl, fv ++ [Value.str fc t6], gv ++ zs, nf + 1, n', ts, rfl, hfv', hgv' zs hz, by rw [List.length_append, List.length_singleton]; omega, by rw [List.length_append]; omega, q1, q2, q3⟩
      have pick : ∀ {l1 l2 l3 l4 l5 l6 l7 l8 l9 : Addr × Obj} {o1 : Obj}, ∀ p ∈ (I, o) :: (fi, o1) :: (fa, PySem.W.listOf (fv ++ [Value.str fc t6]).toArray (nf + 1)) :: (lc, PySem.W.listOf vs.toArray 0) :: news, p ∈ updL fi o1 (l1 :: l2 :: l3 :: l4 :: l5 :: l6 :: l7 :: l8 :: l9 :: (I, o) :: (fi, PySem.W.listOf gv.toArray ng) :: (fa, PySem.W.listOf (fv ++ [Value.str fc t6]).toArray (nf + 1)) :: (lc, PySem.W.listOf vs.toArray 0) :: news) := fun {_ _ _ _ _ _ _ _ _ _} p hp => by
        rcases List.mem_cons.mp hp with rfl | hp
        · exact updL_ne (.tail _ (.tail _ (.tail _ (.tail _ (.tail _ (.tail _ (.tail _ (.tail _ (.tail _ (.head _)))))))))) nIfi
        · rcases List.mem_cons.mp hp with rfl | hp
          · exact updL_self (.tail _ (.tail _ (.tail _ (.tail _ (.tail _ (.tail _ (.tail _ (.tail _ (.tail _ (.tail _ (.head _)))))))))))
          · refine updL_ne (.tail _ (.tail _ (.tail _ (.tail _ (.tail _ (.tail _ (.tail _ (.tail _ (.tail _ (.tail _ (.tail _ hp))))))))))) ?_
            rcases List.mem_cons.mp hp with rfl | hp
            · exact nfifa.symm
            · rcases List.mem_cons.mp hp with rfl | hp
              · exact nlcfi
              · exact Nat.ne_of_lt (hlt4 p hp)
      rcases c with _ | _ | _ | _ | _ | _ | _ | _ | c
      · refine tup_item (vs := _) (isT N7 (.head _)) (by decide) (by decide) rfl ?_
        walk_at "m.go"
        refine extend_led F7 N7 (ys := gv) (n := ng) (.tail _ (.tail _ (.tail _ (.tail _ (.tail _ (.tail _ (.tail _ (.tail _ (.tail _ (.tail _ (.head _))))))))))) (.tail _ (.tail _ (.tail _ (.tail _ (.tail _ (.tail _ (.tail _ (.tail _ (.head _))))))))) (by omega) (Nat.le_of_ble_eq_true rfl) ?_
        intro h8 n8 F8 N8
        dsimp only
        clear hfv hgv hfv' hgv' N7 F7
        walk_at "m.go"
        intro _
        refine fin _ _ n8 _ _ (.cons _ _ .nil) (Nat.le_of_ble_eq_true rfl) ?_ ?_ ?_ F8 (fun p hp => N8 p (pick p hp))
        · exact em1
        · exact em2
        · exact em3
      · refine tup_item (vs := _) (isT N7 (.head _)) (by decide) (by decide) rfl ?_
        walk_at "m.go"
        refine extend_led F7 N7 (ys := gv) (n := ng) (.tail _ (.tail _ (.tail _ (.tail _ (.tail _ (.tail _ (.tail _ (.tail _ (.tail _ (.tail _ (.head _))))))))))) (.tail _ (.tail _ (.tail _ (.tail _ (.tail _ (.tail _ (.tail _ (.head _)))))))) (by omega) (Nat.le_of_ble_eq_true rfl) ?_
        intro h8 n8 F8 N8
        dsimp only
        clear hfv hgv hfv' hgv' N7 F7
        walk_at "m.go"
        intro _
        refine fin _ _ n8 _ _ (.cons _ _ .nil) (Nat.le_of_ble_eq_true rfl) ?_ ?_ ?_ F8 (fun p hp => N8 p (pick p hp))
        · exact em1
        · exact em2
        · exact em3
      · refine tup_item (vs := _) (isT N7 (.head _)) (by decide) (by decide) rfl ?_
        walk_at "m.go"
        refine extend_led F7 N7 (ys := gv) (n := ng) (.tail _ (.tail _ (.tail _ (.tail _ (.tail _ (.tail _ (.tail _ (.tail _ (.tail _ (.tail _ (.head _))))))))))) (.tail _ (.tail _ (.tail _ (.tail _ (.tail _ (.tail _ (.head _))))))) (by omega) (Nat.le_of_ble_eq_true rfl) ?_
        intro h8 n8 F8 N8
        dsimp only
        clear hfv hgv hfv' hgv' N7 F7
        walk_at "m.go"
        intro _
        refine fin _ _ n8 _ _ (.cons _ _ .nil) (Nat.le_of_ble_eq_true rfl) ?_ ?_ ?_ F8 (fun p hp => N8 p (pick p hp))
        · exact em1
        · exact em2
        · exact em3
      · refine tup_item (vs := _) (isT N7 (.head _)) (by decide) (by decide) rfl ?_
        walk_at "m.go"
        refine extend_led F7 N7 (ys := gv) (n := ng) (.tail _ (.tail _ (.tail _ (.tail _ (.tail _ (.tail _ (.tail _ (.tail _ (.tail _ (.tail _ (.head _))))))))))) (.tail _ (.tail _ (.tail _ (.tail _ (.tail _ (.head _)))))) (by omega) (Nat.le_of_ble_eq_true rfl) ?_
        intro h8 n8 F8 N8
        dsimp only
        clear hfv hgv hfv' hgv' N7 F7
        walk_at "m.go"
        intro _
        refine fin _ _ n8 _ _ (.cons _ _ (.cons _ _ .nil)) (Nat.le_of_ble_eq_true rfl) ?_ ?_ ?_ F8 (fun p hp => N8 p (pick p hp))
        · exact em1
        · exact em2
        · exact em3
      · refine tup_item (vs := _) (isT N7 (.head _)) (by decide) (by decide) rfl ?_
        walk_at "m.go"
        refine extend_led F7 N7 (ys := gv) (n := ng) (.tail _ (.tail _ (.tail _ (.tail _ (.tail _ (.tail _ (.tail _ (.tail _ (.tail _ (.tail _ (.head _))))))))))) (.tail _ (.tail _ (.tail _ (.tail _ (.head _))))) (by omega) (Nat.le_of_ble_eq_true rfl) ?_
        intro h8 n8 F8 N8
        dsimp only
        clear hfv hgv hfv' hgv' N7 F7
        walk_at "m.go"
        intro _
        refine fin _ _ n8 _ _ (.nil) (Nat.le_of_ble_eq_true rfl) ?_ ?_ ?_ F8 (fun p hp => N8 p (pick p hp))
        · exact em1
        · exact em2
        · exact em3
      · refine tup_item (vs := _) (isT N7 (.head _)) (by decide) (by decide) rfl ?_
        walk_at "m.go"
        refine extend_led F7 N7 (ys := gv) (n := ng) (.tail _ (.tail _ (.tail _ (.tail _ (.tail _ (.tail _ (.tail _ (.tail _ (.tail _ (.tail _ (.head _))))))))))) (.tail _ (.tail _ (.tail _ (.head _)))) (by omega) (Nat.le_of_ble_eq_true rfl) ?_
        intro h8 n8 F8 N8
        dsimp only
        clear hfv hgv hfv' hgv' N7 F7
        walk_at "m.go"
        intro _
        refine fin _ _ n8 _ _ (.cons _ _ .nil) (Nat.le_of_ble_eq_true rfl) ?_ ?_ ?_ F8 (fun p hp => N8 p (pick p hp))
        · exact em1
        · exact em2
        · exact em3
      · refine tup_item (vs := _) (isT N7 (.head _)) (by decide) (by decide) rfl ?_
        walk_at "m.go"
        refine extend_led F7 N7 (ys := gv) (n := ng) (.tail _ (.tail _ (.tail _ (.tail _ (.tail _ (.tail _ (.tail _ (.tail _ (.tail _ (.tail _ (.head _))))))))))) (.tail _ (.tail _ (.head _))) (by omega) (Nat.le_of_ble_eq_true rfl) ?_
        intro h8 n8 F8 N8
        dsimp only
        clear hfv hgv hfv' hgv' N7 F7
        walk_at "m.go"
        intro _
        refine fin _ _ n8 _ _ (.cons _ _ .nil) (Nat.le_of_ble_eq_true rfl) ?_ ?_ ?_ F8 (fun p hp => N8 p (pick p hp))
        · exact em1
        · exact em2
        · exact em3
      · refine tup_item (vs := _) (isT N7 (.head _)) (by decide) (by decide) rfl ?_
        walk_at "m.go"
        refine extend_led F7 N7 (ys := gv) (n := ng) (.tail _ (.tail _ (.tail _ (.tail _ (.tail _ (.tail _ (.tail _ (.tail _ (.tail _ (.tail _ (.head _))))))))))) (.tail _ (.head _)) (by omega) (Nat.le_of_ble_eq_true rfl) ?_
        intro h8 n8 F8 N8
        dsimp only
        clear hfv hgv hfv' hgv' N7 F7
        walk_at "m.go"
        intro _
        refine fin _ _ n8 _ _ (.nil) (Nat.le_of_ble_eq_true rfl) ?_ ?_ ?_ F8 (fun p hp => N8 p (pick p hp))
        · exact em1
        · exact em2
        · exact em3
      · omega
    · rintro m nw gs h tk ⟨rfl, fv, gv, nf, ng, ts, rfl, hfv, hgv, lfv, lgv, em1, em2, em3⟩ F3 N3 htk3
      have hlen : vs.length = (codesOf x).length := by rw [IntsAre.length hcs, List.length_map]
      rw [hlen, List.take_length] at hfv hgv
      walk_at "m.go"
      (rename Fr h₀ _ _ _ => F4); (rename News h₀ _ _ _ => N4)
      refine ret _ _ _ fa fi fv gv nf ng 0 hfv hgv hlt3 hlt1 (And.left (by assumption)) F4 fun p hp => N4 p ?_
      rcases List.mem_cons.mp hp with rfl | hp
      · exact .head _
      · rcases List.mem_cons.mp hp with rfl | hp
        · exact .tail _ (.tail _ (.head _))
        · rcases List.mem_cons.mp hp with rfl | hp
          · exact .tail _ (.head _)
          · exact .tail _ (.tail _ (.tail _ (.tail _ hp)))
end Mine
end

section
open PySem PySem.W PyProof.Rows PySem.Calls PySem.Spec
set_option maxHeartbeats 8000000
namespace Mine
local macro_rules | `(tactic| walk_at "eval Name") => `(tactic| (k_here; k_dflt (refine' nameX_L ?F ?v ?_ ?a ?b; (case F => k_asm); (case a => rfl); (case b => rfl); (case v => assumption); k_whole)))
local macro_rules | `(tactic| walk_at "loadName") => `(tactic| (k_here; k_dflt (refine' PyProof.Rows.ldn ?F ?v ?_ ?a ?b; (case F => k_asm); (case a => rfl); (case b => rfl); (case v => assumption); k_whole)))
local macro_rules | `(tactic| walk_at "m.no") => `(tactic| (
  (fail_if_success (with_reducible show wpAny _ _ (exec (Stmt.While _ _ _ _) _) _ _ _)); (fail_if_success (with_reducible show wpAny _ _ (exec (Stmt.For _ _ _ _ _) _) _ _ _))
  (fail_if_success (with_reducible show wpAny _ _ (call (Value.ref _) _ _) _ _ _)); (fail_if_success (with_reducible show wpAny _ _ (eval (Expr.ListComp _ _ _ _) _) _ _ _))
  (fail_if_success (with_reducible show wpAny _ _ (eval (Expr.GeneratorExp _ _ _ _) _) _ _ _)); (fail_if_success (with_reducible show wpAny _ _ (exec (Stmt.Assign _ (Expr.ListComp _ _ _ _) _) _) _ _ _))
  (fail_if_success (with_reducible show wpAny _ _ (subscriptTail _ _ (Value.ref _) _) _ _ _)); (fail_if_success (with_reducible show wpAny _ _ (compareOp _ (Value.ref _) (Value.ref _)) _ _ _))
  (fail_if_success (with_reducible show wpAny _ _ (call (Value.builtin "str.split") _ _) _ _ _)); (fail_if_success (with_reducible show wpAny _ _ (call (Value.builtin "str.join") _ _) _ _ _)); (fail_if_success (with_reducible show wpAny _ _ (call (Value.builtin "sorted") _ _) _ _ _)); (fail_if_success (with_reducible show wpAny _ _ (call (Value.type "filter") _ _) _ _ _))))
local macro_rules | `(tactic| walk_at "m.go") => `(tactic| repeat' ((walk_at "m.no"); (first | (k_unfold; (try dsimp only)) | walk1 | dsimp only)))
local macro_rules | `(tactic| walk_at "m.enter") => `(tactic| (
  (case kA => exact rfl); (case kF => exact rfl); (case kK => assumption)
  (case k1 => k_asm); (case k2 => k_asm); (case k3 => k_asm); (case k4 => k_asm); (case k5 => k_asm)
  (case k6 => k_is); (case k7 => k_is); (case k8 => ktr_room)
  (case c5 => decide); (case kB => exact locs rfl); (case c2 => exact rfl); (case c3 => exact rfl); (case c4 => exact rfl)))
theorem comm_eq : ∀ (fs gs : List Str) (k : Nat), fs.take k = gs.take k → k ≤ fs.length → k ≤ gs.length → (k = fs.length ∨ k = gs.length ∨ fs[k]? ≠ gs[k]?) → comm fs gs = fs.take k
  | [], gs, k, _, h1, _, _ => by simp [comm]
  | x :: xs, [], k, _, _, h2, _ => by
    have : k = 0 := by simpa using h2
    subst this; simp [comm]
  | x :: xs, y :: ys, 0, _, _, _, h => by
    have : x ≠ y := by simpa using h
    simp [comm, this]
  | x :: xs, y :: ys, k + 1, h, h1, h2, h3 => by
    rw [List.take_succ_cons, List.take_succ_cons] at h
    obtain ⟨e, h'⟩ := List.cons.inj h
    subst e
    rw [comm, if_pos rfl, List.take_succ_cons]
    rw [comm_eq xs ys k h' (by simpa using h1) (by simpa using h2) (by simpa using h3)]
theorem begins_spec (w : World) {p : Program} {loose : List Str} {mean : ExcName → Option Value} {mg mb : Str → Option Value}
  {dp un : Nat} {gd : Option (List Code)} {cn : Str} {cs : Scope} {a : Addr} {ccd : Value} {cl : List (Str × Addr)} {outer : List Env} {A₀ : Around} {base h₀ : Heap} {L : Addr} {m : Str → Option Value} {s : Shared} {Q E : Value → Shared → Prop} {news : List (Addr × Obj)}
  {f r : Addr} {fs rs : List Str} {fv rv : List Value} {nf nr : Nat}
  (B : Below A₀ base outer h₀) (F : Fr h₀ L s.heap m) (X : (hd.heap_39 w.params).In h₀) (N : News h₀ L s.heap news) (T : Top p loose mean mg mb h₀) (hk : cs.kind = .function)
  (hf : (f, PySem.W.listOf fv.toArray nf) ∈ news) (hfs : StrsAre fv fs) (hr : (r, PySem.W.listOf rv.toArray nr) ∈ news) (hrs : StrsAre rv rs) (of : OkS fs) (or : OkS rs) (hsf : fv.length ≤ 1000) (hsr : rv.length ≤ 1000)
  (hd1 : dp + 1 < recursionLimit) (hu : un + 80 < cLine)
  (ret : ∀ h' tk', Fr h₀ L h' m → News h₀ L h' news → Q (.bool (decide (fs.take rs.length = rs))) { s with heap := h', toks := tk' }) :
  wpAny (model Challenge.rw_ph0096_01.row.prog w) (ktrTop dp un gd cn cs L a ccd cl outer) (call (.ref 69) [.ref f, .ref r]) Q E s := by
  refine wpAny_call ?_
  refine' code_def (binds := [("fields", .ref f), ("rule", .ref r)]) ?k1 ?k2 ?k3 ?k4 ?k5 ?kA ?kF ?kK ?k6 ?k7 ?k8 ?k9 ?kB ?_ ?c2 ?c3 ?c4 ?c5
  walk_at "m.enter"
  case k9 => exact BindsTo.of_eq rfl
  intro g' L' h' FG' F' N' B' X' T'
  dsimp only
  k_fold
  clear FG' F N
  have hL := isL N' hf
  have hR := isL N' hr
  walk_at "m.go"
  refine PyProof.Rows.len_list hR (by simp; omega) ?_
  walk_at "m.go"
  have e : (rv.toArray.size : Int) = (rs.length : Nat) := by rw [List.size_toArray, StrsAre.length hrs]
  refine PyProof.Rows.slice_list (items := fv.toArray) (lo := none) (hi := some (rs.length : Nat)) (by k_asm) (by k_asm) (isL (by k_asm) hf) .none (e ▸ .int _ _) ?_ (hsz := by rw [List.size_toArray]; unfold sizeLine; omega)
  intro h2 F2 N2
  rw [slicePick_upto'] at N2
  rw [List.toList_toArray] at N2
  dsimp only
  walk_at "m.go"
  refine eq_strs (isL N2 (.head _)) (isL N2 (.tail _ hr)) (StrsAre.take' hfs _) hrs (fun x hx => of x (List.mem_of_mem_take hx)) or (by ktr_units) ?_
  walk_at "m.go"
  (rename Fr _ _ _ _ => F4); (rename News _ _ _ _ => N4)
  exact ret _ _ F4 fun p hp => N4 p (.tail _ hp)
theorem common_spec (w : World) {p : Program} {loose : List Str} {mean : ExcName → Option Value} {mg mb : Str → Option Value}
  {dp un : Nat} {gd : Option (List Code)} {cn : Str} {cs : Scope} {a : Addr} {ccd : Value} {cl : List (Str × Addr)} {outer : List Env} {A₀ : Around} {base h₀ : Heap} {L : Addr} {m : Str → Option Value} {s : Shared} {Q E : Value → Shared → Prop} {news : List (Addr × Obj)}
  {x y : Str} {tx ty : Tok} {fs gs : List Str}
  (B : Below A₀ base outer h₀) (F : Fr h₀ L s.heap m) (X : (hd.heap_39 w.params).In h₀) (N : News h₀ L s.heap news) (T : Top p loose mean mg mb h₀) (hk : cs.kind = .function)
  (hx : Txt.split x (Str.ofString "-") = fs) (hy : Txt.split y (Str.ofString "-") = gs) (hzx : x.length ≤ 1000) (hzy : y.length ≤ 1000) (hfx : fs.length ≤ 1000) (hgx : gs.length ≤ 1000)
  (hd1 : dp + 1 < recursionLimit) (hu : un + 80 < cLine)
  (ret : ∀ r vs n h' tk', StrsAre vs (comm fs gs) → Fr h₀ L h' m → News h₀ L h' ((r, PySem.W.listOf vs.toArray n) :: news) → Q (.ref r) { s with heap := h', toks := tk' }) :
  wpAny (model Challenge.rw_ph0096_01.row.prog w) (ktrTop dp un gd cn cs L a ccd cl outer) (call (.ref 76) [.str x tx, .str y ty]) Q E s := by
  refine wpAny_call ?_
  refine' code_def (binds := [("name", .str x tx), ("other", .str y ty)]) ?k1 ?k2 ?k3 ?k4 ?k5 ?kA ?kF ?kK ?k6 ?k7 ?k8 ?k9 ?kB ?_ ?c2 ?c3 ?c4 ?c5
  walk_at "m.enter"
  case k9 => exact BindsTo.of_eq rfl
  intro g' L' h' FG' F' N' B' X' T'
  dsimp only
  k_fold
  clear FG' F N
  walk_at "m.go"
  refine KSpl.split1 (by k_asm) (by k_asm) rfl ?_ (by unfold sizeLine; omega)
  intro D1 l1 h1 k1 e1 v1 F1 N1 a1
  dsimp only
  walk_at "m.go"
  refine KSpl.split1 (by k_asm) (by k_asm) rfl ?_ (by unfold sizeLine; omega)
  intro D2 l2 h2 k2 e2 v2 F2 N2 a2
  dsimp only
  rw [e1, hx] at v1
  rw [e2, hy] at v2
  generalize strValues l1 = w1 at *
  generalize strValues l2 = w2 at *
  clear a1 a2 F1 N1 e1 e2
  walk_at "m.go"
  (rename Fr _ _ _ _ => F3); (rename News _ _ _ _ => N3)
  have N4 : News g' L' _ ((D2, PySem.W.listOf w2.toArray 0) :: (D1, PySem.W.listOf w1.toArray 0) :: news) := fun p hp => N3 p (.tail _ hp)
  clear N3
  refine While_inv2 (fun n m₁ news₁ => news₁ = (D2, PySem.W.listOf w2.toArray 0) :: (D1, PySem.W.listOf w1.toArray 0) :: news ∧ ∃ (k : Nat) (t1 : Tok), k ≤ fs.length ∧ k ≤ gs.length ∧ fs.take k = gs.take k ∧ n = fs.length - k ∧ m₁ "size" = some (.int k t1) ∧ m₁ "fields" = some (.ref D1) ∧ m₁ "others" = some (.ref D2)) F3 N4 ⟨rfl, 0, _, Nat.zero_le _, Nat.zero_le _, rfl, rfl, rfl, rfl, rfl⟩ ?_
  clear F3 N4
  rintro n m₁ news₁ h₁ tk₁ F1 N1 ⟨rfl, k, t1, i1, i2, i3, rfl, e1, e2, e3⟩
  have hw1 := StrsAre.length v1
  have hw2 := StrsAre.length v2
  walk_at "m.go"
  · rename_i hk1 hk2
    have v2 : StrsAre w2 gs := by assumption
    obtain ⟨x1, hx1⟩ : ∃ y, fs[k]? = some y := ⟨fs[k]'(by omega), List.getElem?_eq_getElem (by omega)⟩
    obtain ⟨y1, hy1⟩ : ∃ y, gs[k]? = some y := ⟨gs[k]'(by omega), List.getElem?_eq_getElem (by omega)⟩
    obtain ⟨ta, hva⟩ := StrsAre.get v1 k x1 hx1
    obtain ⟨tb, hvb⟩ := StrsAre.get v2 k y1 hy1
    refine item_litK (isL (by k_asm) (.tail _ (.head _))) (v := .str x1 ta) (by omega) (by omega) (by simpa using hva) ?_
    walk_at "m.go"
    refine item_litK (isL (by k_asm) (.head _)) (v := .str y1 tb) (by omega) (by omega) (by simpa using hvb) ?_
    walk_at "m.go"
    · (rename News _ _ _ _ => N3); (rename Fr _ _ _ _ => F3)
      have hxy : (x1 == y1) = true := by assumption
      have hs : fs.take (k + 1) = gs.take (k + 1) := by rw [List.take_add_one, List.take_add_one, i3, hx1, hy1, eq_of_beq hxy]
      exact ⟨_, _, _, _, fs.length - (k + 1), rfl, F3, N3, by omega, rfl, k + 1, _, by omega, by omega, hs, rfl, rfl, e2, e3⟩
    · have fin : fs.take k = comm fs gs := (comm_eq fs gs k i3 i1 i2 (.inr (.inr (by rw [hx1, hy1]; intro q; cases q; simp_all)))).symm
      refine PyProof.Rows.slice_list (items := w1.toArray) (lo := none) (hi := some (k : Nat)) (by k_asm) (by k_asm) (isL (by k_asm) (.tail _ (.head _))) .none (.int _ _) ?_ (hsz := by rw [List.size_toArray]; unfold sizeLine; omega)
      intro h2 F2 N2
      rw [slicePick_upto', List.toList_toArray] at N2
      dsimp only
      walk_at "m.go"
      (rename Fr _ _ _ _ => F4); (rename News _ _ _ _ => N4)
      refine ret _ _ 0 _ _ (fin ▸ StrsAre.take' v1 k) F4 fun p hp => ?_
      rcases List.mem_cons.mp hp with rfl | hp
      · exact N4 _ (.head _)
      · exact N4 p (.tail _ (.tail _ (.tail _ hp)))
  · have fin : fs.take k = comm fs gs := (comm_eq fs gs k i3 i1 i2 (by omega)).symm
    refine PyProof.Rows.slice_list (items := w1.toArray) (lo := none) (hi := some (k : Nat)) (by k_asm) (by k_asm) (isL (by k_asm) (.tail _ (.head _))) .none (.int _ _) ?_ (hsz := by rw [List.size_toArray]; unfold sizeLine; omega)
    intro h2 F2 N2
    rw [slicePick_upto', List.toList_toArray] at N2
    dsimp only
    walk_at "m.go"
    (rename Fr _ _ _ _ => F4); (rename News _ _ _ _ => N4)
    refine ret _ _ 0 _ _ (fin ▸ StrsAre.take' v1 k) F4 fun p hp => ?_
    rcases List.mem_cons.mp hp with rfl | hp
    · exact N4 _ (.head _)
    · exact N4 p (.tail _ (.tail _ (.tail _ hp)))
  · have fin : fs.take k = comm fs gs := (comm_eq fs gs k i3 i1 i2 (by omega)).symm
    refine PyProof.Rows.slice_list (items := w1.toArray) (lo := none) (hi := some (k : Nat)) (by k_asm) (by k_asm) (isL (by k_asm) (.tail _ (.head _))) .none (.int _ _) ?_ (hsz := by rw [List.size_toArray]; unfold sizeLine; omega)
    intro h2 F2 N2
    rw [slicePick_upto', List.toList_toArray] at N2
    dsimp only
    walk_at "m.go"
    (rename Fr _ _ _ _ => F4); (rename News _ _ _ _ => N4)
    refine ret _ _ 0 _ _ (fin ▸ StrsAre.take' v1 k) F4 fun p hp => ?_
    rcases List.mem_cons.mp hp with rfl | hp
    · exact N4 _ (.head _)
    · exact N4 p (.tail _ (.tail _ (.tail _ hp)))
end Mine
end

section
open PySem PySem.W PyProof.Rows PySem.Calls PySem.Spec
open AutoSeq1 (wpAny_loadPart')
set_option maxHeartbeats 4000000
namespace Mine
open MeetsSeq MeetsSeq3
theorem chs_cons (x : Str) (r : List Str) : chs (x :: r) = x.cps.toList :: chs r := rfl
theorem drop_eq {xs : List Str} {i : Nat} {x : Str} (h : xs[i]? = some x) : xs.drop i = x :: xs.drop (i + 1) := by
  obtain ⟨hi, rfl⟩ := List.getElem?_eq_some_iff.mp h
  exact List.drop_eq_getElem_cons hi
theorem lt_loop (l b : Addr) {vs ws : List Value} {xs ys : List Str} (hx : StrsAre vs xs) (hy : StrsAre ws ys) (n n2 : Nat) (k : Nat) :
    ∀ i : Nat, i ≤ vs.length → i ≤ ws.length → vs.length - i = k → Meets (Builtin.«list.__eq__.loop» ⟨[.ref l, .ref b, rawInt i, rawInt 0], []⟩)
      (fun A R s => s.heap.get? l = some { cls := .type "list", dict := none, data := .seq vs.toArray n, slots := #[] } ∧ s.heap.get? b = some { cls := .type "list", dict := none, data := .seq ws.toArray n2, slots := #[] } ∧
        R (.ok (.ret (.bool (decide (chs (xs.drop i) < chs (ys.drop i)))))) s) := by
  have lx := StrsAre.length hx
  have ly := StrsAre.length hy
  have szl : ∀ i : Nat, i ≤ vs.length → i ≤ ws.length → (vs.toArray[((i : Nat) : Int).toNat]? = none ∨ ws.toArray[((i : Nat) : Int).toNat]? = none) →
      decide (chs (xs.drop i) < chs (ys.drop i)) = decide (vs.toArray.size < ws.toArray.size) := fun i h1 h2 h => by
    simp only [Int.toNat_natCast, List.getElem?_toArray, List.getElem?_eq_none_iff] at h
    rw [List.size_toArray, List.size_toArray]
    by_cases hw : ws.length ≤ i
    · have e : ys.drop i = [] := List.drop_of_length_le (by omega)
      have e2 : ¬ vs.length < ws.length := by omega
      rw [e]
      simp [chs, e2]
    · have e : xs.drop i = [] := List.drop_of_length_le (by omega)
      have e2 : vs.length < ws.length := by omega
      rw [e]
      obtain ⟨y, hyi⟩ : ∃ y, ys[i]? = some y := ⟨ys[i]'(by omega), List.getElem?_eq_getElem (by omega)⟩
      rw [drop_eq hyi]
      simp [chs, e2]
  induction k with
  | zero =>
    intro i h1 h2 hk prog w A R s h
    obtain ⟨hp, g, d, tk, os⟩ := s; obtain ⟨hl, hb, h⟩ := h
    wp_walk using wpAny_loadPart' hl, wpAny_loadPart' hb
    have hi1 : vs.toArray[((i : Nat) : Int).toNat]? = none := by simp; omega
    rw [szl i h1 h2 (.inl hi1)] at h
    rw [hi1]
    wp_walk using wpAny_loadPart' hl, wpAny_loadPart' hb
    exact h
  | succ k ih =>
    intro i h1 h2 hk prog w A R s h
    obtain ⟨hp, g, d, tk, os⟩ := s; obtain ⟨hl, hb, h⟩ := h
    wp_walk using wpAny_loadPart' hl, wpAny_loadPart' hb
    obtain ⟨x, hxi⟩ : ∃ y, xs[i]? = some y := ⟨xs[i]'(by omega), List.getElem?_eq_getElem (by omega)⟩
    obtain ⟨t, hvi⟩ := StrsAre.get hx i x hxi
    have hi1 : vs.toArray[((i : Nat) : Int).toNat]? = some (.str x t) := by simpa using hvi
    by_cases hlt : i < ws.length
    · obtain ⟨y, hyi⟩ : ∃ y, ys[i]? = some y := ⟨ys[i]'(by omega), List.getElem?_eq_getElem (by omega)⟩
      obtain ⟨u, hwi⟩ := StrsAre.get hy i y hyi
      have hi2 : ws.toArray[((i : Nat) : Int).toNat]? = some (.str y u) := by simpa using hwi
      have hc : ((i : Int) + 1) = ((i + 1 : Nat) : Int) := by push_cast; rfl
      rw [drop_eq hxi, drop_eq hyi, chs_cons, chs_cons] at h
      rw [hi1, hi2]
      refine wpAny_bind (SeqAt.EqAt.str_str x t y u prog w _ _ ?_)
      cases hb' : (x == y) with
      | true =>
        have exy : x = y := eq_of_beq hb'
        subst exy
        have e3 : decide (x.cps.toList :: chs (xs.drop (i + 1)) < x.cps.toList :: chs (ys.drop (i + 1))) = decide (chs (xs.drop (i + 1)) < chs (ys.drop (i + 1))) := by
          simp [List.cons_lt_cons_iff, List.lt_irrefl]
        rw [e3] at h
        wp_walk
        rw [hc]
        exact ⟨plainId_quiet plain_eq_loop _, codeAny_builtin entry_eq_loop (by
          rw [Around.under_plainId plain_eq_loop _]
          exact ih (i + 1) (by omega) (by omega) (by omega) prog w A R _ ⟨hl, hb, h⟩)⟩
      | false =>
        have hne : x.cps.toList ≠ y.cps.toList := fun q => by
          have := str_inj q
          subst this
          simp at hb'
        have e3 : decide (x.cps.toList :: chs (xs.drop (i + 1)) < y.cps.toList :: chs (ys.drop (i + 1))) = decide (x.cps.toList < y.cps.toList) := by
          simp [List.cons_lt_cons_iff, hne]
        rw [e3] at h
        wp_walk using wpAny_loadPart' hl, wpAny_loadPart' hb
        rw [hi1, hi2]
        have key : ∀ {E : Value → Shared → Prop} {Q : Value → Shared → Prop}, Q (.bool (decide (x.cps.toList < y.cps.toList))) ⟨hp, g, d, tk, os⟩ → wpAny (model prog w) A.in1 (richCompare .Lt (.str x t) (.str y u)) Q E ⟨hp, g, d, tk, os⟩ := fun q => PyProof.Rows.lt_str q
        show wpAny _ _ (richCompare .Lt (.str x t) (.str y u) >>= fun v => ret v) _ _ _
        refine wpAny_bind (key ?_)
        wp_walk
        exact h
    · have hi2 : ws.toArray[((i : Nat) : Int).toNat]? = none := by simp; omega
      rw [szl i h1 h2 (.inr hi2)] at h
      rw [hi1, hi2]
      wp_walk using wpAny_loadPart' hl, wpAny_loadPart' hb
      exact h
theorem list_lt (l b : Addr) {vs ws : List Value} {xs ys : List Str} (hx : StrsAre vs xs) (hy : StrsAre ws ys) (n n2 : Nat) :
    Meets (Builtin.«list.__lt__» ⟨[.ref l, .ref b], []⟩)
      (fun A R s => s.heap.get? l = some { cls := .type "list", dict := none, data := .seq vs.toArray n, slots := #[] } ∧ s.heap.get? b = some { cls := .type "list", dict := none, data := .seq ws.toArray n2, slots := #[] } ∧
        R (.ok (.ret (.bool (decide (chs xs < chs ys))))) s) := by
  intro prog w A R s h
  obtain ⟨hp, g, d, tk, os⟩ := s; obtain ⟨hl, hb, h⟩ := h
  have f3 := AutoSeq1.sub_list_list
  wp_walk using wpAny_loadPart' hl, wpAny_loadPart' hb
  exact ⟨plainId_quiet plain_eq_loop _, codeAny_builtin entry_eq_loop (by
    rw [Around.under_plainId plain_eq_loop _]
    exact lt_loop l b hx hy n n2 _ 0 (Nat.zero_le _) (Nat.zero_le _) rfl prog w A R _ ⟨hl, hb, by simpa using h⟩)⟩
section
variable {prog : Program} {w : World} {A : Around} {E : Value → Shared → Prop} {s : Shared} {h₀ : Heap} {L : Addr} {m : Str → Option Value} {news : List (Addr × Obj)}
theorem keyLt_list {a b : Addr} {vs ws : List Value} {xs ys : List Str} {n n2 : Nat} {Q : Bool → Shared → Prop} (hu : A.units < cLine) (hx : StrsAre vs xs) (hy : StrsAre ws ys) (ha : s.heap.get? a = some (PySem.W.listOf vs.toArray n)) (hb : s.heap.get? b = some (PySem.W.listOf ws.toArray n2))
    (h : Q (decide (chs xs < chs ys)) s) : wpAny (model prog w) A (keyLt' oneType' (.ref a) (.ref b)) Q E s := by
  rw [keyLt'_oneType, oneLt'_eq]
  simp only [if_true]
  refine wpAny_bind (wpAny_cRoomFor hu ?_)
  have hT : s.TypeIs (.ref a) "list" := ⟨_, ha, rfl⟩
  refine wpAny_bind (wpAny_callSpecialIfBound?_slot hT PySem.F.slot_list_lt (call_meets PySem.F.slot_list_lt hT PySem.F.entry_list_lt (PySem.F.args_list_lt_2 _ _) (list_lt a b hx hy n n2) ⟨ha, hb, ?_⟩))
  exact wpAny_truthy_bool h
end
end Mine
end

section
open PySem PySem.W PyProof.Rows PySem.Calls PySem.Spec
namespace Mine
/-! what a machine's facts become -/
def P0 (c : Nat) : List Nat := [[97], [98], [97, 95, 98], [98, 45, 97], [], [97, 46, 98], [98, 45], []].getD c []
theorem sign_cases (x : Int) : ∃ i : Nat, i < 7 ∧ signOf x = Txt.item (Str.ofString "/\\:;\"()") (i : Int) := by
  have h := fdm x 7 (by decide)
  refine ⟨(x.fmod 7).toNat, by omega, ?_⟩
  unfold signOf
  rw [Int.toNat_of_nonneg h.1]
theorem facts_all : ∀ i : Fin 7, ∀ c : Fin 8, (ne0 (factOf (Txt.item (Str.ofString "/\\:;\"()") ((i : Nat) : Int)) c) = decide ((c : Nat) ≠ 7)) ∧ ((c : Nat) ≠ 7 → pc (factOf (Txt.item (Str.ofString "/\\:;\"()") ((i : Nat) : Int)) c) = P0 c) := by decide +kernel
theorem fact_is (x : Int) {c : Nat} (hc : c < 8) : ne0 (factOf (signOf x) c) = decide (c ≠ 7) ∧ (c ≠ 7 → pc (factOf (signOf x) c) = P0 c) := by
  obtain ⟨i, hi, e⟩ := sign_cases x
  rw [e]
  exact facts_all ⟨i, hi⟩ ⟨c, hc⟩
theorem codes_mem {x : Int} : ∀ c ∈ codesOf x, c < 8 := fun c h => by
  obtain ⟨i, e⟩ := List.getElem?_of_mem h
  exact codes_lt e
theorem facts_filter (x : Int) : ∀ cs : List Nat, (∀ c ∈ cs, c < 8) → ((cs.map (factOf (signOf x))).filter ne0).map pc = (cs.filter (fun c => decide (c ≠ 7))).map P0
  | [], _ => rfl
  | c :: cs, h => by
    have ih := facts_filter x cs fun d hd => h d (.tail _ hd)
    have f := fact_is x (h c (.head _))
    rw [List.map_cons, List.filter_cons, List.filter_cons, f.1]
    by_cases hc : c ≠ 7
    · rw [if_pos (decide_eq_true hc), if_pos (decide_eq_true hc), List.map_cons, List.map_cons, ih, f.2 hc]
    · rw [if_neg (by simpa using hc), if_neg (by simpa using hc), ih]
theorem jd_append (a b : List (List Nat)) : jd (a ++ b) = jd a ++ jd b := by unfold jd; rw [List.flatMap_append]
theorem nd_codes : ∀ cs : List Nat, (∀ c ∈ cs, c < 8) → ∀ b : Bool, nd b (jd ((cs.filter (fun c => decide (c ≠ 7))).map P0)) = jd (chs (cs.flatMap fieldOf))
  | [], _, b => by cases b <;> rfl
  | c :: cs, h, b => by
    have ih := nd_codes cs fun d hd => h d (.tail _ hd)
    have hc := h c (.head _)
    have e1 : chs ((c :: cs).flatMap fieldOf) = chs (fieldOf c) ++ chs (cs.flatMap fieldOf) := by rw [List.flatMap_cons]; simp [chs]
    rw [e1, jd_append, List.filter_cons]
    generalize hR : jd (chs (cs.flatMap fieldOf)) = R at *
    generalize hS : (cs.filter (fun c => decide (c ≠ 7))).map P0 = S at *
    rcases c with _ | _ | _ | _ | _ | _ | _ | _ | c
    · have e2 : jd (chs (fieldOf 0)) = [45, 97] := by decide +kernel
      rw [e2, if_pos (by decide), List.map_cons, hS, jd_cons]
      show nd b (45 :: 97 :: jd S) = _
      simp [nd, ih]
    · have e2 : jd (chs (fieldOf 1)) = [45, 98] := by decide +kernel
      rw [e2, if_pos (by decide), List.map_cons, hS, jd_cons]
      show nd b (45 :: 98 :: jd S) = _
      simp [nd, ih]
    · have e2 : jd (chs (fieldOf 2)) = [45, 97, 95, 98] := by decide +kernel
      rw [e2, if_pos (by decide), List.map_cons, hS, jd_cons]
      show nd b (45 :: 97 :: 95 :: 98 :: jd S) = _
      simp [nd, ih]
    · have e2 : jd (chs (fieldOf 3)) = [45, 98, 45, 97] := by decide +kernel
      rw [e2, if_pos (by decide), List.map_cons, hS, jd_cons]
      show nd b (45 :: 98 :: 45 :: 97 :: jd S) = _
      simp [nd, ih]
    · have e2 : jd (chs (fieldOf 4)) = [] := by decide +kernel
      rw [e2, if_pos (by decide), List.map_cons, hS, jd_cons]
      show nd b (45 :: jd S) = _
      simp [nd, ih]
    · have e2 : jd (chs (fieldOf 5)) = [45, 97, 46, 98] := by decide +kernel
      rw [e2, if_pos (by decide), List.map_cons, hS, jd_cons]
      show nd b (45 :: 97 :: 46 :: 98 :: jd S) = _
      simp [nd, ih]
    · have e2 : jd (chs (fieldOf 6)) = [45, 98] := by decide +kernel
      rw [e2, if_pos (by decide), List.map_cons, hS, jd_cons]
      show nd b (45 :: 98 :: 45 :: jd S) = _
      simp [nd, ih]
    · have e2 : jd (chs (fieldOf 7)) = [] := by decide +kernel
      rw [e2, if_neg (by decide), hS]
      simp [ih]
    · omega
theorem first_code (x : Int) : ∃ c r, codesOf x = c :: r ∧ (c = 0 ∨ c = 1 ∨ c = 2 ∨ c = 5) := by
  refine ⟨_, _, rfl, ?_⟩
  generalize (x / 8 % 4).toNat = k
  rcases k with _ | _ | _ | _ | k <;> simp
theorem plat_machine (x : Int) : platF (factsOf x) = J (fieldsOf x) := by
  refine str_inj ?_
  rw [platF_list, J_chs]
  unfold factsOf fieldsOf
  have hm := codes_mem (x := x)
  obtain ⟨c, r, e, hc⟩ := first_code x
  have h0 : ne0 (Str.ofString "") = false := by decide +kernel
  rw [List.filter_cons, h0, if_neg Bool.false_ne_true, facts_filter x _ hm]
  rw [e] at hm ⊢
  have hr := nd_codes r (fun d hd => hm d (.tail _ hd)) false
  have e1 : chs ((c :: r).flatMap fieldOf) = chs (fieldOf c) ++ chs (r.flatMap fieldOf) := by rw [List.flatMap_cons]; simp [chs]
  rw [e1]
  have h7 : decide (c ≠ 7) = true := by rcases hc with rfl | rfl | rfl | rfl <;> rfl
  have hP : chs (fieldOf c) = [P0 c] ∧ P0 c ≠ [] ∧ 45 ∉ P0 c := by rcases hc with rfl | rfl | rfl | rfl <;> decide +kernel
  rw [List.filter_cons, if_pos h7, List.map_cons, jl_cons, nd_app _ _ _ hP.2.1 hP.2.2, hr, hP.1, List.singleton_append, jl_cons]
  rfl
theorem fields_ff (x : Int) : FF (fieldsOf x) := by
  intro f hf
  obtain ⟨c, hc, hf⟩ := List.mem_flatMap.mp hf
  have h8 := codes_mem c hc
  unfold fieldOf at hf
  rcases c with _ | _ | _ | _ | _ | _ | _ | _ | c <;> simp at hf <;> first | (rcases hf with rfl | rfl <;> simp) | (subst hf; simp) | omega
theorem fields_ne (x : Int) : fieldsOf x ≠ [] := by
  unfold fieldsOf
  obtain ⟨c, r, e, hc⟩ := first_code x
  rw [e, List.flatMap_cons]
  rcases hc with rfl | rfl | rfl | rfl <;> simp [fieldOf]
theorem fieldOf_len (c : Nat) : (fieldOf c).length ≤ 2 := by
  unfold fieldOf
  rcases c with _ | _ | _ | _ | _ | _ | _ | _ | c <;> simp
theorem flat_len : ∀ cs : List Nat, (cs.flatMap fieldOf).length ≤ 2 * cs.length
  | [] => Nat.zero_le _
  | c :: cs => by
    have := flat_len cs
    have := fieldOf_len c
    rw [List.flatMap_cons, List.length_append, List.length_cons]
    omega
theorem fields_len (x : Int) : (fieldsOf x).length ≤ 8 := by
  have := flat_len (codesOf x)
  have := codes_len x
  unfold fieldsOf
  omega
theorem sign_one (x : Int) : (signOf x).length = 1 := rfl
theorem facts_len (x : Int) : (factsOf x).length ≤ 5 := by
  have := codes_len x
  unfold factsOf
  simp only [List.length_cons, List.length_map]
  omega
theorem factOf_len (g : Str) (hg : g.length = 1) (c : Nat) : (factOf g c).length ≤ 100 := by
  unfold factOf
  have h1 : (Str.ofString " b" ++ g ++ Str.ofString "a ").length = 5 := by rw [Str.length_append, Str.length_append, hg]; decide +kernel
  have h2 : (Str.ofString "unknownb" ++ g ++ Str.ofString "unknown").length = 16 := by rw [Str.length_append, Str.length_append, hg]; decide +kernel
  rcases c with _ | _ | _ | _ | _ | _ | _ | _ | c
  · show (Str.ofString "a").length ≤ 100; decide +kernel
  · show (Str.ofString "b").length ≤ 100; decide +kernel
  · show (Str.ofString "a b").length ≤ 100; decide +kernel
  · show (Str.ofString " b" ++ g ++ Str.ofString "a ").length ≤ 100; omega
  · show (Str.ofString "unknown").length ≤ 100; decide +kernel
  · show (Str.ofString "a.b").length ≤ 100; decide +kernel
  · show (Str.ofString "unknownb" ++ g ++ Str.ofString "unknown").length ≤ 100; omega
  · show (Str.ofString "").length ≤ 100; decide +kernel
  · show Str.empty.length ≤ 100; decide +kernel
theorem facts_sz (x : Int) : ∀ f ∈ factsOf x, f.length ≤ 1000 := by
  intro f hf
  unfold factsOf at hf
  rcases List.mem_cons.mp hf with rfl | hf
  · decide +kernel
  · obtain ⟨c, _, rfl⟩ := List.mem_map.mp hf
    exact Nat.le_trans (factOf_len _ (sign_one x) c) (by decide)
/-! rows -/
theorem srt_unique : ∀ {xs ys : List Str}, Srt xs → Srt ys → xs.Perm ys → xs = ys
  | [], ys, _, _, h => (List.nil_perm.mp h).symm
  | x :: xs, ys, hx, hy, h => by
    cases ys with
    | nil => exact absurd h.length_eq (by simp)
    | cons y ys =>
      have hx' := List.pairwise_cons.mp hx
      have hy' := List.pairwise_cons.mp hy
      have e : x = y := by
        have m1 : y ∈ x :: xs := (h.mem_iff).mpr (.head _)
        have m2 : x ∈ y :: ys := (h.mem_iff).mp (.head _)
        rcases List.mem_cons.mp m1 with q | q
        · exact q.symm
        · rcases List.mem_cons.mp m2 with q2 | q2
          · exact q2
          · exact ltS_tri (hy'.1 x q2) (hx'.1 y q)
      subst e
      rw [srt_unique hx'.2 hy'.2 (List.Perm.cons_inv h)]
theorem map_srt {gss : List (List Str)} (hf : ∀ g ∈ gss, FF g) (h : gss.Pairwise fun a b => ¬ chs b < chs a) : Srt (gss.map J) := by
  unfold Srt
  rw [List.pairwise_map]
  refine h.imp_of_mem fun {a b} ha hb q => ?_
  rw [J_lt (hf b hb) (hf a ha)]
  exact q
theorem take_lt {b : Str} : ∀ {xs : List Str}, Srt xs → xs.take (cntL xs b) = xs.filter fun y => decide (y.cps.toList < b.cps.toList)
  | [], _ => rfl
  | x :: xs, h => by
    have h' := List.pairwise_cons.mp h
    have ih := take_lt (b := b) h'.2
    unfold cntL at ih ⊢
    rw [List.countP_cons, List.filter_cons]
    by_cases q : x.cps.toList < b.cps.toList
    · rw [if_pos (decide_eq_true q), if_pos (decide_eq_true q), List.take_succ_cons, ih]
    · rw [if_neg (by simpa using q), if_neg (by simpa using q)]
      have hz : ∀ y ∈ xs, ¬ y.cps.toList < b.cps.toList := fun y hy z => nlt_trans (x := b) (y := x) (z := y) q (h'.1 y hy) z
      have e : xs.countP (fun y => decide (y.cps.toList < b.cps.toList)) = 0 := by rw [List.countP_eq_zero]; intro y hy; simpa using hz y hy
      rw [e]
      show [] = _
      symm
      rw [List.filter_eq_nil_iff]
      intro y hy; simpa using hz y hy
theorem drop_nlt {a : Str} : ∀ {xs : List Str}, Srt xs → xs.drop (cntL xs a) = xs.filter fun y => !decide (y.cps.toList < a.cps.toList)
  | [], _ => rfl
  | x :: xs, h => by
    have h' := List.pairwise_cons.mp h
    have ih := drop_nlt (a := a) h'.2
    unfold cntL at ih ⊢
    rw [List.countP_cons, List.filter_cons]
    by_cases q : x.cps.toList < a.cps.toList
    · rw [if_pos (decide_eq_true q), decide_eq_true q, if_neg (by simp), List.drop_succ_cons, ih]
    · rw [if_neg (by simpa using q), decide_eq_false q, if_pos (by simp)]
      have hz : ∀ y ∈ xs, ¬ y.cps.toList < a.cps.toList := fun y hy z => nlt_trans (x := a) (y := x) (z := y) q (h'.1 y hy) z
      have e : xs.countP (fun y => decide (y.cps.toList < a.cps.toList)) = 0 := by rw [List.countP_eq_zero]; intro y hy; simpa using hz y hy
      rw [e]
      show x :: xs = _
      congr 1
      symm
      rw [List.filter_eq_self]
      intro y hy; simpa using hz y hy
theorem between_is {xs : List Str} (h : Srt xs) {a b : Str} (hab : ¬ b.cps.toList < a.cps.toList) : (xs.take (cntL xs b)).drop (cntL xs a) = xs.filter fun y => !decide (y.cps.toList < a.cps.toList) && decide (y.cps.toList < b.cps.toList) := by
  rw [take_lt h]
  have hs : Srt (xs.filter fun y => decide (y.cps.toList < b.cps.toList)) := List.Pairwise.sublist (List.filter_sublist ..) h
  have e : cntL xs a = cntL (xs.filter fun y => decide (y.cps.toList < b.cps.toList)) a := by
    unfold cntL
    rw [List.countP_filter]
    refine List.countP_congr fun y _ => ?_
    by_cases q : y.cps.toList < a.cps.toList
    · have : y.cps.toList < b.cps.toList := ltS_of_lt_of_not (x := y) (y := a) (z := b) q hab
      simp [q, this]
    · simp [q]
  rw [e, drop_nlt hs, List.filter_filter]
/-! what begins with a rule -/
theorem app_lt46 {x y : List Nat} (hx : x = [] ∨ ∃ t, x = 45 :: t) (hy : y = [46] ∨ ∃ t, y = 45 :: t) : ∀ f g : List Nat, Hi f → Hi g → (f ++ x < g ++ y ↔ f < g ∨ f = g ∧ x < y)
  | [], [], _, _ => by simp
  | [], c :: g, _, hg => by
    have hc := hg c (.head _)
    rcases hx with rfl | ⟨t, rfl⟩
    · simp
    · simp [List.cons_lt_cons_iff, hc]
  | c :: f, [], hf, _ => by
    have hc := hf c (.head _)
    rcases hy with rfl | ⟨t, rfl⟩
    · have h1 : ¬ c < 46 := by omega
      simp [List.cons_lt_cons_iff, h1]
    · have h1 : ¬ c < 45 := by omega
      have h2 : c ≠ 45 := by omega
      simp [List.cons_lt_cons_iff, h1, h2]
  | c :: f, d :: g, hf, hg => by
    have ih := app_lt46 hx hy f g (fun c h => hf c (.tail _ h)) fun c h => hg c (.tail _ h)
    rw [List.cons_append, List.cons_append, List.cons_lt_cons_iff, List.cons_lt_cons_iff, ih]
    constructor
    · rintro (h | ⟨rfl, h | ⟨rfl, h⟩⟩)
      · exact .inl (.inl h)
      · exact .inl (.inr ⟨rfl, h⟩)
      · exact .inr ⟨rfl, h⟩
    · rintro ((h | ⟨rfl, h⟩) | ⟨h, k⟩)
      · exact .inl h
      · exact .inr ⟨rfl, .inl h⟩
      · obtain ⟨rfl, rfl⟩ := List.cons.inj h
        exact .inr ⟨rfl, .inr ⟨rfl, k⟩⟩
theorem jd46 (r : List (List Nat)) : jd r ++ [46] = [46] ∨ ∃ t, jd r ++ [46] = 45 :: t := by
  rcases jd_start r with e | ⟨t, e⟩
  · exact .inl (by rw [e]; rfl)
  · exact .inr ⟨t ++ [46], by rw [e]; rfl⟩
theorem jd_lt46 : ∀ g r : List (List Nat), (∀ f ∈ g, Hi f) → (∀ f ∈ r, Hi f) → (jd g < jd r ++ [46] ↔ g < r ∨ r <+: g)
  | g, [], _, _ => by
    rcases jd_start g with e | ⟨t, e⟩
    · rw [e, show jd [] = [] from rfl]; simp
    · rw [e, show jd [] = [] from rfl]; simp [List.cons_lt_cons_iff]
  | [], p :: r, _, _ => by rw [jd_cons]; simp [jd]
  | q :: g, p :: r, hg, hr => by
    rw [jd_cons, jd_cons, List.cons_append, List.append_assoc, List.cons_lt_cons_iff, app_lt46 (jd_start g) (jd46 r) q p (hg q (.head _)) (hr p (.head _)), jd_lt46 g r (fun f h => hg f (.tail _ h)) (fun f h => hr f (.tail _ h)), List.cons_lt_cons_iff, List.cons_prefix_cons]
    constructor
    · rintro (h | ⟨_, h | ⟨rfl, h | h⟩⟩)
      · omega
      · exact .inl (.inl h)
      · exact .inl (.inr ⟨rfl, h⟩)
      · exact .inr ⟨rfl, h⟩
    · rintro ((h | ⟨rfl, h⟩) | ⟨rfl, h⟩)
      · exact .inr ⟨rfl, .inl h⟩
      · exact .inr ⟨rfl, .inr ⟨rfl, .inl h⟩⟩
      · exact .inr ⟨rfl, .inr ⟨rfl, .inr h⟩⟩
theorem dot_is : (Str.ofString ".").cps.toList = [46] := by decide +kernel
theorem J_lt46 {g r : List Str} (hg : FF g) (hr : FF r) (hg0 : g ≠ []) (hr0 : r ≠ []) : (J g).cps.toList < (J r ++ Str.ofString ".").cps.toList ↔ chs g < chs r ∨ r <+: g := by
  rw [Str.cps_append, Array.toList_append, dot_is, J_chs, J_chs]
  have h1 := hg.hi
  have h2 := hr.hi
  have hp : r <+: g ↔ chs r <+: chs g := ⟨chs_pre, pre_chs⟩
  rw [hp]
  cases g with
  | nil => exact absurd rfl hg0
  | cons q g =>
    cases r with
    | nil => exact absurd rfl hr0
    | cons p r =>
      rw [show chs (q :: g) = q.cps.toList :: chs g from rfl] at h1 ⊢
      rw [show chs (p :: r) = p.cps.toList :: chs r from rfl] at h2 ⊢
      rw [jl_cons, jl_cons, List.append_assoc, app_lt46 (jd_start _) (jd46 _) _ _ (h1 _ (.head _)).1 (h2 _ (.head _)).1, jd_lt46 _ _ (fun f h => (h1 f (.tail _ h)).1) (fun f h => (h2 f (.tail _ h)).1), List.cons_lt_cons_iff, List.cons_prefix_cons]
      constructor
      · rintro (h | ⟨e, h | h⟩)
        · exact .inl (.inl h)
        · exact .inl (.inr ⟨e, h⟩)
        · exact .inr ⟨e.symm, h⟩
      · rintro ((h | ⟨e, h⟩) | ⟨e, h⟩)
        · exact .inl h
        · exact .inr ⟨e, .inl h⟩
        · exact .inr ⟨e.symm, .inr h⟩
theorem begins_iff {g r : List Str} (hg : FF g) (hr : FF r) (hg0 : g ≠ []) (hr0 : r ≠ []) : (!decide ((J g).cps.toList < (J r).cps.toList) && decide ((J g).cps.toList < (J r ++ Str.ofString ".").cps.toList)) = decide (g.take r.length = r) := by
  have hp : (g.take r.length = r) ↔ r <+: g := ⟨fun e => List.prefix_iff_eq_take.mpr e.symm, fun e => (List.prefix_iff_eq_take.mp e).symm⟩
  by_cases h : r <+: g
  · rw [decide_eq_true (hp.mpr h), decide_eq_true ((J_lt46 hg hr hg0 hr0).mpr (.inr h)), decide_eq_false (J_pre hr hg h)]
    rfl
  · rw [decide_eq_false fun q => h (hp.mp q)]
    by_cases q : (J g).cps.toList < (J r).cps.toList
    · rw [decide_eq_true q]; rfl
    · rw [decide_eq_false q, decide_eq_false fun z => ?_]
      · rfl
      · rcases (J_lt46 hg hr hg0 hr0).mp z with z | z
        · exact q ((J_lt hg hr).mpr z)
        · exact h z
theorem under_is {gss : List (List Str)} {r : List Str} (hf : ∀ g ∈ gss, FF g ∧ g ≠ []) (hr : FF r) (hr0 : r ≠ []) (h : Srt (gss.map J)) :
    ((gss.map J).take (cntL (gss.map J) (J r ++ Str.ofString "."))).drop (cntL (gss.map J) (J r)) = (gss.filter fun g => decide (g.take r.length = r)).map J := by
  have hab : ¬ (J r ++ Str.ofString ".").cps.toList < (J r).cps.toList := by
    rw [Str.cps_append, Array.toList_append]
    exact pre_nlt (fun _ => Nat.lt_irrefl _) _ _
  rw [between_is h hab, List.filter_map]
  congr 1
  refine List.filter_congr fun g hg => ?_
  exact begins_iff (hf g hg).1 hr (hf g hg).2 hr0
/-! the longest rule -/
theorem near_unique {rs : List (List Str)} {fs a b : List Str} (ha : Near rs fs a) (hb : Near rs fs b) : a = b := by
  rcases ha with ⟨h1, h2, h3⟩ | ⟨rfl, h3⟩
  · rcases hb with ⟨k1, k2, k3⟩ | ⟨rfl, k3⟩
    · have e : a.length = b.length := Nat.le_antisymm (k3 a h1 h2) (h3 b k1 k2)
      exact (List.prefix_of_prefix_length_le h2 k2 (Nat.le_of_eq e)).eq_of_length e
    · exact absurd h2 (k3 a h1)
  · rcases hb with ⟨k1, k2, k3⟩ | ⟨rfl, k3⟩
    · exact absurd k2 (h3 b k1)
    · rfl
theorem near_turn {rs : List (List Str)} {fs cur r : List Str} (h : Near rs fs cur) (hr0 : r ≠ []) : Near (rs ++ [r]) fs (if r.length > cur.length ∧ fs.take r.length = r then r else cur) := by
  have hp : (fs.take r.length = r) ↔ r <+: fs := ⟨fun e => List.prefix_iff_eq_take.mpr e.symm, fun e => (List.prefix_iff_eq_take.mp e).symm⟩
  have hmem : ∀ q : List Str, q ∈ rs ++ [r] → q ∈ rs ∨ q = r := fun q hq => by simpa using hq
  by_cases c : r.length > cur.length ∧ fs.take r.length = r
  · rw [if_pos c]
    refine .inl ⟨by simp, hp.mp c.2, fun q hq hqf => ?_⟩
    rcases hmem q hq with hq | rfl
    · rcases h with ⟨_, _, h3⟩ | ⟨_, h3⟩
      · exact Nat.le_trans (h3 q hq hqf) (Nat.le_of_lt c.1)
      · exact absurd hqf (h3 q hq)
    · exact Nat.le_refl _
  · rw [if_neg c]
    rcases h with ⟨h1, h2, h3⟩ | ⟨rfl, h3⟩
    · refine .inl ⟨by simp [h1], h2, fun q hq hqf => ?_⟩
      rcases hmem q hq with hq | rfl
      · exact h3 q hq hqf
      · exact Nat.le_of_not_lt fun z => c ⟨z, hp.mpr hqf⟩
    · refine .inr ⟨rfl, fun q hq hqf => ?_⟩
      rcases hmem q hq with hq | rfl
      · exact h3 q hq hqf
      · refine c ⟨?_, hp.mpr hqf⟩
        exact Nat.pos_of_ne_zero fun z => hr0 (List.eq_nil_of_length_eq_zero z)
end Mine
end

section
open PySem PySem.W PyProof.Rows PySem.Calls PySem.Spec
set_option maxHeartbeats 8000000
namespace Mine
local macro_rules | `(tactic| walk_at "eval Name") => `(tactic| (k_here; k_dflt (refine' nameX_L ?F ?v ?_ ?a ?b; (case F => k_asm); (case a => rfl); (case b => rfl); (case v => assumption); k_whole)))
local macro_rules | `(tactic| walk_at "loadName") => `(tactic| (k_here; k_dflt (refine' PyProof.Rows.ldn ?F ?v ?_ ?a ?b; (case F => k_asm); (case a => rfl); (case b => rfl); (case v => assumption); k_whole)))
local macro_rules | `(tactic| walk_at "m.no") => `(tactic| (
  (fail_if_success (with_reducible show wpAny _ _ (exec (Stmt.While _ _ _ _) _) _ _ _)); (fail_if_success (with_reducible show wpAny _ _ (exec (Stmt.For _ _ _ _ _) _) _ _ _))
  (fail_if_success (with_reducible show wpAny _ _ (call (Value.ref _) _ _) _ _ _)); (fail_if_success (with_reducible show wpAny _ _ (eval (Expr.ListComp _ _ _ _) _) _ _ _))
  (fail_if_success (with_reducible show wpAny _ _ (eval (Expr.GeneratorExp _ _ _ _) _) _ _ _)); (fail_if_success (with_reducible show wpAny _ _ (exec (Stmt.Assign _ (Expr.ListComp _ _ _ _) _) _) _ _ _))
  (fail_if_success (with_reducible show wpAny _ _ (subscriptTail _ _ (Value.ref _) _) _ _ _)); (fail_if_success (with_reducible show wpAny _ _ (compareOp _ (Value.ref _) (Value.ref _)) _ _ _))
  (fail_if_success (with_reducible show wpAny _ _ (call (Value.builtin "str.split") _ _) _ _ _)); (fail_if_success (with_reducible show wpAny _ _ (call (Value.builtin "str.join") _ _) _ _ _)); (fail_if_success (with_reducible show wpAny _ _ (call (Value.builtin "sorted") _ _) _ _ _)); (fail_if_success (with_reducible show wpAny _ _ (call (Value.type "filter") _ _) _ _ _))))
local macro_rules | `(tactic| walk_at "m.go") => `(tactic| repeat' ((walk_at "m.no"); (first | (k_unfold; (try dsimp only)) | walk1 | dsimp only)))
local macro_rules | `(tactic| walk_at "m.enter") => `(tactic| (
  (case kA => exact rfl); (case kF => exact rfl); (case kK => assumption)
  (case k1 => k_asm); (case k2 => k_asm); (case k3 => k_asm); (case k4 => k_asm); (case k5 => k_asm)
  (case k6 => k_is); (case k7 => k_is); (case k8 => ktr_room)
  (case c5 => decide); (case kB => exact locs rfl); (case c2 => exact rfl); (case c3 => exact rfl); (case c4 => exact rfl)))
theorem newsSwap {g h : Heap} {L : Addr} {x y : Addr × Obj} {r : List (Addr × Obj)} (N : News g L h (x :: y :: r)) : News g L h (y :: x :: r) := fun p hp => N p (by
  rcases List.mem_cons.mp hp with rfl | hp
  · exact .tail _ (.head _)
  · rcases List.mem_cons.mp hp with rfl | hp
    · exact .head _
    · exact .tail _ (.tail _ hp))
theorem newsRot {g h : Heap} {L : Addr} {x y z : Addr × Obj} {r : List (Addr × Obj)} (N : News g L h (x :: y :: z :: r)) : News g L h (z :: y :: r) := newsSwap fun p hp => N p (.tail _ hp)
local macro_rules | `(tactic| walk_at "m.noadd") => `(tactic| ((walk_at "m.no"); (fail_if_success (with_reducible show wpAny _ _ (binaryOp Operator.Add (Value.str _ _) (Value.str _ _)) _ _ _))))
local macro_rules | `(tactic| walk_at "m.goadd") => `(tactic| repeat' ((walk_at "m.noadd"); (first | (k_unfold; (try dsimp only)) | walk1 | dsimp only)))
theorem nearest_spec (w : World) {p : Program} {loose : List Str} {mean : ExcName → Option Value} {mg mb : Str → Option Value}
  {dp un : Nat} {gd : Option (List Code)} {cn : Str} {cs : Scope} {a : Addr} {ccd : Value} {cl : List (Str × Addr)} {outer : List Env} {A₀ : Around} {base h₀ : Heap} {L : Addr} {m : Str → Option Value} {s : Shared} {Q E : Value → Shared → Prop} {news : List (Addr × Obj)}
  {tb : Addr} {tv : List Value} {tn : Nat} {ts : List Str} {rs : List (List Str)} {fs : List Str} {tx : Tok} {ps : Array Value}
  (B : Below A₀ base outer h₀) (F : Fr h₀ L s.heap m) (X : (hd.heap_39 w.params).In h₀) (N : News h₀ L s.heap ((16, tabObj ps) :: news)) (T : Top p loose mean mg mb h₀) (hk : cs.kind = .function)
  (hC : CodeHd h₀ 20 16) (htr : TriplesOk ps.toList) (hne : ∀ p ∈ news, p.1 ≠ 16) (hgs : AllBare s.gens) (htk : 1 ≤ s.toks)
  (htb : (tb, PySem.W.listOf tv.toArray tn) ∈ news) (hts : StrsAre tv ts) (hTab : Tab ts rs) (hlt : tv.length ≤ 500) (hff : FF fs) (hfl : fs.length ≤ 20)
  (hd1 : dp + 8 < recursionLimit) (hu : un + 120 < cLine)
  (ret : ∀ t res ps' h' tk' gs', Near rs fs res → TriplesOk ps'.toList → AllBare gs' → Fr h₀ L h' m → News h₀ L h' ((16, tabObj ps') :: news) → Q (.str (J res) t) { s with heap := h', toks := tk', gens := gs' }) :
  wpAny (model Challenge.rw_ph0096_01.row.prog w) (ktrTop dp un gd cn cs L a ccd cl outer) (call (.ref 83) [.ref tb, .str (J fs) tx]) Q E s := by
  refine wpAny_call ?_
  refine' code_def (binds := [("table", .ref tb), ("name", .str (J fs) tx)]) ?k1 ?k2 ?k3 ?k4 ?k5 ?kA ?kF ?kK ?k6 ?k7 ?k8 ?k9 ?kB ?_ ?c2 ?c3 ?c4 ?c5
  walk_at "m.enter"
  case k9 => exact BindsTo.of_eq rfl
  intro g' L' h' FG' F' N' B' X' T'
  dsimp only
  k_fold
  have hC' : CodeHd g' 20 16 := hC.keeps FG'.keep
  clear FG' F N
  have hJ : (J fs).length ≤ 100 := J_len hff hfl
  walk_at "m.go"
  refine wpAny_For ?_
  refine wpAny_with_toks (n := 1) (Nat.le_trans htk (Nat.le_add_right _ _)) ?_
  walk_at "m.go"
  (rename 1 ≤ _ => htk1)
  try dsimp only at htk1
  (rename IsRange _ _ _ _ _ _ _ _ => hR); (rename Fr _ _ _ _ => F1); (rename News _ _ _ _ => N1)
  refine' wpAny_pyIter_range ?hr ?hs ?_
  case hr => exact hR
  case hs => exact small_one (by decide) (by decide) (by omega) (by omega)
  have N2 := News.push F1 N1 { cls := .type "range_iterator", data := .fields #[rawInt 0, rawInt (Builtin.Range.rangeSize 0 (((J fs).length : Int) + 1) 1), rawInt 1] }
  have F2 := F1.push { cls := .type "range_iterator", data := .fields #[rawInt 0, rawInt (Builtin.Range.rangeSize 0 (((J fs).length : Int) + 1) 1), rawInt 1] }
  have hIne : ∀ p ∈ (16, tabObj ps) :: news, p.1 ≠ _ := fun p hp => Nat.ne_of_lt (Heap.lt_size (N1 p hp).1)
  refine For_led (nm := _) (cl := []) (n := (J fs).length + 1) (Ob := fun i o => o = RObj 0 i ((J fs).length + 1)) (P := fun i v => ∃ t, v = .int (i : Int) t)
    (fun i m nw gs => (∃ ps', TriplesOk ps'.toList ∧ nw = (16, tabObj ps') :: news) ∧ AllBare gs ∧ ∃ cur t, Inv rs fs cur ∧ FF cur ∧ cur.length + i ≤ fs.length ∧ m "name" = some (.str (J cur) t) ∧ m "table" = some (.ref tb))
    ?_ F2 N2 ?_ ⟨⟨ps, htr, rfl⟩, hgs, fs, tx, ⟨List.prefix_rfl, fun _ _ h => h⟩, hff, Nat.le_refl _, rfl, rfl⟩ ?_ ?_ ?_ ?_
  · rintro i m nw gs ⟨⟨ps', _, rfl⟩, _⟩ p hp
    rcases List.mem_cons.mp hp with rfl | hp
    · exact hIne (16, tabObj ps) (.head _)
    · exact hIne p (.tail _ hp)
  · unfold RObj
    rw [rangeSize_one, if_pos (by omega)]
    have e : (((J fs).length + 1 : Nat) : Int) - ((0 : Nat) : Int) = ((J fs).length : Int) + 1 - 0 := by omega
    rw [e]
    rfl
  · intro i m nw gs h tk o Q' E' hi _ _ N ho q
    exact range_step hi N ho q
  · intro m nw gs h tk o Q' E' _ _ N ho q
    exact range_stop rfl N ho q
  · rintro i v m nw gs h tk o hi ⟨tv', rfl⟩ ⟨⟨ps', htr', rfl⟩, hgs', cur, tc, hInv, hfc, hcl, em1, em2⟩ F3 N3 ho htk3
    have hIx : ∀ p ∈ (16, tabObj ps) :: news, p.1 ≠ _ := hIne
    clear F2 N2 F1 N1 hR
    have htkc : 1 ≤ tk := Nat.le_trans htk1 htk3
    clear htk3
    have hCL : cur.length ≤ 20 := by omega
    have hJc : (J cur).length ≤ 100 := J_len hfc hCL
    have hcnt : cntR ts (J cur) ≤ 500 := Nat.le_trans cntR_len (StrsAre.length hts ▸ hlt)
    walk_at "m.go"
    refine wpAny_with_toks (n := 1) (by first | assumption | exact Nat.le_succ_of_le (by assumption) | exact Nat.le_add_left 1 _ | (repeat (first | assumption | apply Nat.le_succ_of_le))) (bisect_right_gen w (n := tn) (vs := tv) (by k_asm) (by k_asm) (by k_asm) (by k_asm) (by k_asm) rfl (.tail _ (.tail _ htb)) hts (by omega) hTab.srt (b39_2 (by k_in)) (by ktr_room) (by ktr_units) ?_)
    intro t4 h4 tk4 F4 N4 htk4
    dsimp only at htk4
    dsimp only
    walk_at "m.go"
    · have h0 : cntR ts (J cur) = 0 := by omega
      (rename Fr h₀ _ _ _ => F5); (rename News h₀ _ _ _ => N5)
      have hz := fun t tk => ret t [] ps' _ tk _ (near_zero hTab hff hInv h0) htr' hgs' F5 (fun p hp => N5 p (.tail _ hp))
      rw [J_nil] at hz
      exact hz _ _
    · have h0 : cntR ts (J cur) ≠ 0 := by omega
      obtain ⟨r, hr, hat⟩ := near_at hTab h0
      obtain ⟨tr, hvr⟩ := StrsAre.get hts _ _ hat
      have hrf := (hTab.ff r hr).1
      have hJr : (J r).length ≤ 100 := J_len hrf (hTab.len r hr)
      have e1 : (((cntR ts (J cur) : Nat) : Int) - 1).toNat = cntR ts (J cur) - 1 := by omega
      refine item_litK (isL (by k_asm) (.tail _ (.tail _ htb))) (v := .str (J r) tr) (by omega) (by omega) (by rw [e1]; exact hvr) ?_
      walk_at "m.goadd"
      · have hq : (J cur == J r) = true := by assumption
        (rename Fr h₀ _ _ _ => F5); (rename News h₀ _ _ _ => N5)
        exact ret _ r ps' _ _ _ (near_ret hTab hff hInv hr h0 hat (.inl (eq_of_beq hq))) htr' hgs' F5 (fun p hp => N5 p (.tail _ hp))
      · refine wpAny_with_toks (n := 1) (by first | assumption | exact Nat.le_succ_of_le (by assumption) | exact Nat.le_add_left 1 _ | (repeat (first | assumption | apply Nat.le_succ_of_le))) ?_
        walk_at "m.go"
        · have hq : Txt.startswith (J cur) (J r ++ Str.ofString "-") = true := by assumption
          (rename Fr h₀ _ _ _ => F5); (rename News h₀ _ _ _ => N5)
          exact ret _ r ps' _ _ _ (near_ret hTab hff hInv hr h0 hat (.inr hq)) htr' hgs' F5 (fun p hp => N5 p (.tail _ hp))
        · have hq1 : J cur ≠ J r := fun q => by simp_all
          have hq2 : Txt.startswith (J cur) (J r ++ Str.ofString "-") = false := by assumption
          (rename 1 ≤ _ => htk6); try dsimp only at htk6
          have hc0 : cur ≠ [] := by rintro rfl; exact h0 (near_nil hTab)
          refine wpAny_with_toks (n := 1) (by first | assumption | exact Nat.le_succ_of_le (by assumption) | exact Nat.le_add_left 1 _ | (repeat (first | assumption | apply Nat.le_succ_of_le))) (common_spec w (fs := cur) (gs := r) (by k_asm) (by k_asm) (by k_asm) (by k_asm) (by k_asm) rfl (split_J hfc hc0) (split_J hrf (hTab.ff r hr).2) (by omega) (by omega) (by omega) (by have := hTab.len r hr; omega) (by ktr_room) (by ktr_units) ?_)
          intro d vs n6 h6 tk6 hv6 F6 N6 htk7
          dsimp only at htk7
          have hst := near_step hTab hff hInv hr h0 hat hq1
          have hcf := comm_ff r hfc
          have hcm := comm_len cur r
          have hvl := StrsAre.length hv6
          refine star_seq F6 N6 (.head _) rfl rfl (.inl rfl) (List.toList_toArray ..) (by rw [List.size_toArray]; unfold sizeLine; omega) ?_
          intro h7 F7 N7
          dsimp only
          walk_at "m.go"
          refine platform_spec w (xs := comm cur r) (ps := ps') (by k_asm) F7 (by k_asm) (newsRot N7) (by k_asm) rfl hC' htr' ?q2 hgs' htk7 hv6 (by omega) (fun x hx => Nat.le_trans (field_hi (hcf x hx)).2.2.2.1 (by decide)) (by ktr_room) (by ktr_units) ?_
          case q2 =>
            intro p hp
            rcases List.mem_cons.mp hp with rfl | hp
            · exact fun q => hIx (16, tabObj ps) (.head _) q.symm
            · exact hne p hp
          intro t8 ps8 h8 tk8 gs8 htr8 hgs8 F8 N8
          dsimp only
          rw [plat_J hcf]
          walk_at "m.go"
          (rename Fr _ _ _ _ => F9); (rename News _ _ _ _ => N9)
          intro _
          exact ⟨_, (16, tabObj ps8) :: news, _, _, _, _, rfl, F9, newsSwap N9, ho, ⟨ps8, htr8, rfl⟩, hgs8, comm cur r, _, hst.1, hcf, by omega, rfl, em2⟩
  · rintro m nw gs h tk ⟨_, _, cur, tc, hInv, hfc, hcl, em1, em2⟩ F3 N3 htk3
    exfalso
    have := len_J hff
    omega
end Mine
end

section
open PySem PySem.W PyProof.Rows PySem.Calls PySem.Spec
namespace Mine
/-- a row of lists of texts, in the ledger -/
inductive FsAre (news : List (Addr × Obj)) : List Value → List (List Str) → Prop where
  | nil : FsAre news [] []
  | cons {a : Addr} {ws : List Value} {n : Nat} {fs : List Str} {vs : List Value} {fss : List (List Str)} : (a, PySem.W.listOf ws.toArray n) ∈ news → StrsAre ws fs → FsAre news vs fss → FsAre news (.ref a :: vs) (fs :: fss)
namespace FsAre
variable {news news' : List (Addr × Obj)} {vs vs' : List Value} {fss fss' : List (List Str)}
theorem length (h : FsAre news vs fss) : vs.length = fss.length := by
  induction h with
  | nil => rfl
  | cons _ _ _ ih => simp [ih]
theorem mono (hs : ∀ p ∈ news, p ∈ news') (h : FsAre news vs fss) : FsAre news' vs fss := by
  induction h with
  | nil => exact .nil
  | cons hm hf _ ih => exact .cons (hs _ hm) hf ih
theorem append (h : FsAre news vs fss) (h' : FsAre news vs' fss') : FsAre news (vs ++ vs') (fss ++ fss') := by
  induction h with
  | nil => exact h'
  | cons hm hf _ ih => exact .cons hm hf ih
theorem get (h : FsAre news vs fss) : ∀ (i : Nat) (fs : List Str), fss[i]? = some fs → ∃ a ws n, vs[i]? = some (.ref a) ∧ (a, PySem.W.listOf ws.toArray n) ∈ news ∧ StrsAre ws fs := by
  induction h with
  | nil => intro i fs h; simp at h
  | cons hm hf _ ih =>
    intro i fs h
    cases i with
    | zero => simp at h; subst h; exact ⟨_, _, _, rfl, hm, hf⟩
    | succ i => exact ih i fs (by simpa using h)
theorem pick (h : FsAre news vs fss) : ∀ l : List Nat, (∀ i ∈ l, i < fss.length) → FsAre news (l.map fun i => vs.getD i Value.none) (l.map fun i => fss.getD i [])
  | [], _ => .nil
  | i :: l, hl => by
    have hi := hl i (.head _)
    obtain ⟨a, ws, n, e1, e2, e3⟩ := h.get i fss[i] (List.getElem?_eq_getElem hi)
    rw [List.map_cons, List.map_cons]
    have q1 : vs.getD i Value.none = .ref a := by simp [List.getD, e1]
    have q2 : fss.getD i [] = fss[i] := by simp [List.getD, hi]
    rw [q1, q2]
    exact .cons e2 e3 (pick h l fun j hj => hl j (.tail _ hj))
end FsAre
theorem range_getD {α : Type} (d : α) (l : List α) : (List.range l.length).map (fun i => l.getD i d) = l := by
  apply List.ext_getElem
  · simp
  · intro i h1 h2
    simp [List.getD, h2]
section
variable {prog : Program} {w : World} {A : Around} {E : Value → Shared → Prop} {s : Shared} {h₀ : Heap} {L : Addr} {m : Str → Option Value} {news : List (Addr × Obj)}
theorem sorted_lists {l : Addr} {R : List (Addr × Obj)} {vs : List Value} {fss : List (List Str)} {Q : Value → Shared → Prop} (F : Fr h₀ L s.heap m) (N : News h₀ L s.heap news) (hl : s.heap.IsList l vs.toArray) (hF : FsAre R vs fss) (hsub : ∀ p ∈ R, p ∈ news) (h2 : 2 ≤ vs.length) (h64 : vs.length < 64) (hu : A.in1.in1.units < cLine)
    (h : ∀ D c h' us gss, FsAre R us gss → gss.Perm fss → gss.Pairwise (fun a b => ¬ chs b < chs a) → Fr h₀ L h' m → News h₀ L h' ((D, PySem.W.listOf us.toArray c) :: news) → (∀ p ∈ news, p.1 < D) → Q (.ref D) { s with heap := h' }) :
    wpAny (model prog w) A (call (.builtin "sorted") [.ref l]) Q E s := by
  have hlen := hF.length
  refine kas_sorted (T := .type "list") F N hl h2 h64 (fun h' F' N' v hv => ?_) (by decide) fun D e1 h' F' N' hlt => ?_
  · obtain ⟨i, hi, rfl⟩ := List.mem_iff_getElem.mp hv
    obtain ⟨a, ws, n, e1, e2, e3⟩ := hF.get i (fss[i]'(by omega)) (List.getElem?_eq_getElem (by omega))
    rw [List.getElem?_eq_getElem hi] at e1
    rw [Option.some.inj e1]
    exact (Looks.ld (N' _ (hsub _ e2)).1).andThen .now
  · refine KH_wp (lt := klt fun i => chs (fss.getD i [])) (V := VN vs.length) (I := fun s' => s' = { s with heap := h' }) ?_ (P := fun p => PermR vs.length p ∧ STo (fun i => chs (fss.getD i [])) p vs.length) ?_ _ _ (sort_ok (by omega) fun p' a b => ⟨a, b⟩) rfl
    · rintro i j C s' hi hj rfl hC
      obtain ⟨a, ws, n, e1, e2, e3⟩ := hF.get i (fss[i]'(by omega)) (List.getElem?_eq_getElem (by omega))
      obtain ⟨a', ws', n', e1', e2', e3'⟩ := hF.get j (fss[j]'(by omega)) (List.getElem?_eq_getElem (by omega))
      unfold kas_ask
      have q1 : vs.getD i Value.none = .ref a := by simp [List.getD, e1]
      have q2 : vs.getD j Value.none = .ref a' := by simp [List.getD, e1']
      rw [q1, q2]
      refine keyLt_list hu e3 e3' (N' _ (.tail _ (hsub _ e2))).1 (N' _ (.tail _ (hsub _ e2'))).1 ?_
      have q3 : fss.getD i [] = fss[i]'(by omega) := by simp [List.getD, show i < fss.length by omega]
      have q4 : fss.getD j [] = fss[j]'(by omega) := by simp [List.getD, show j < fss.length by omega]
      have e : decide (chs (fss[i]'(by omega)) < chs (fss[j]'(by omega))) = klt (fun i => chs (fss.getD i [])) i j := by
        unfold klt
        simp only [q3, q4]
      rw [e]
      exact hC _ rfl
    · rintro p s' ⟨hp, hs⟩ rfl
      refine KasFin.intro F' N' (.head fun q hq => Nat.ne_of_lt (hlt q hq)) fun h'' c F'' N'' => ?_
      have hpl : p.toList.Perm (List.range vs.length) := by have := hp.toList; simpa using this
      refine h D c h'' _ (p.toList.map fun i => fss.getD i []) (hF.pick p.toList fun i hi => by have := (hpl.mem_iff).mp hi; rw [List.mem_range] at this; omega) ?_ ?_ F'' N'' hlt
      · have := hpl.map fun i => fss.getD i []
        rw [hlen, range_getD] at this
        exact this
      · rw [List.pairwise_iff_getElem]
        intro i j hi hj hij
        simp only [List.length_map, Array.length_toList] at hi hj
        have hsz := hp.size
        have := hs i j (Nat.le_of_lt hij) (by omega)
        unfold Kp at this
        have q1 : p.getD i 0 = p[i] := by simp [Array.getD, hi]
        have q2 : p.getD j 0 = p[j] := by simp [Array.getD, hj]
        rw [q1, q2] at this
        simpa using this
end
end Mine
end

section
open PySem PySem.W PyProof.Rows PySem.Calls PySem.Spec
namespace Mine
/-- the machines, in the ledger -/
inductive MsAre (news : List (Addr × Obj)) : List Value → List Int → Prop where
  | nil : MsAre news [] []
  | cons {t fa fi : Addr} {fv gv : List Value} {nf ng tn : Nat} {x : Int} {vs : List Value} {xs : List Int} : (t, ({ cls := .type "tuple", data := .seq #[.ref fa, .ref fi] tn } : Obj)) ∈ news → (fa, PySem.W.listOf fv.toArray nf) ∈ news → (fi, PySem.W.listOf gv.toArray ng) ∈ news →
      StrsAre fv (factsOf x) → StrsAre gv (fieldsOf x) → MsAre news vs xs → MsAre news (.ref t :: vs) (x :: xs)
namespace MsAre
variable {news news' : List (Addr × Obj)} {vs vs' : List Value} {xs xs' : List Int}
theorem length (h : MsAre news vs xs) : vs.length = xs.length := by
  induction h with
  | nil => rfl
  | cons _ _ _ _ _ _ ih => simp [ih]
theorem mono (hs : ∀ p ∈ news, p ∈ news') (h : MsAre news vs xs) : MsAre news' vs xs := by
  induction h with
  | nil => exact .nil
  | cons a b c d e _ ih => exact .cons (hs _ a) (hs _ b) (hs _ c) d e ih
theorem append (h : MsAre news vs xs) (h' : MsAre news vs' xs') : MsAre news (vs ++ vs') (xs ++ xs') := by
  induction h with
  | nil => exact h'
  | cons a b c d e _ ih => exact .cons a b c d e ih
theorem get (h : MsAre news vs xs) : ∀ (i : Nat) (x : Int), xs[i]? = some x → ∃ t fa fi fv gv nf ng tn, vs[i]? = some (.ref t) ∧ (t, ({ cls := .type "tuple", data := .seq #[.ref fa, .ref fi] tn } : Obj)) ∈ news ∧ (fa, PySem.W.listOf fv.toArray nf) ∈ news ∧ (fi, PySem.W.listOf gv.toArray ng) ∈ news ∧
      StrsAre fv (factsOf x) ∧ StrsAre gv (fieldsOf x) := by
  induction h with
  | nil => intro i x h; simp at h
  | cons a b c d e _ ih =>
    intro i x h
    cases i with
    | zero => simp at h; subst h; exact ⟨_, _, _, _, _, _, _, _, rfl, a, b, c, d, e⟩
    | succ i => exact ih i x (by simpa using h)
end MsAre
/-- a machine's name -/
def nm (x : Int) : Str := J (fieldsOf x)
/-- what the first loop has laid -/
structure St1 (R : List (Addr × Obj)) (ds : List Int) (i : Nat) (nv rv tv uv : List Value) (row tab : List Str) (rs : List (List Str)) : Prop where
  names : StrsAre nv ((ds.take i).map nm)
  rowA : StrsAre rv row
  rowS : Srt row
  rowP : row.Perm ((ds.take i).map nm)
  tabA : StrsAre tv tab
  tabS : Srt tab
  tabP : tab.Perm (rs.map J)
  rul : FsAre R uv rs
  nd : rs.Nodup
  mem : ∀ r, r ∈ rs ↔ ∃ x ∈ ds.take i, x.fmod 2 = 0 ∧ fieldsOf x = r
/-- the law's own lists, the code table, the cell -/
abbrev LG (an ar tb au c : Addr) (oc : Obj) (R : List (Addr × Obj)) (nv rv tv uv : List Value) (n1 n2 n3 n4 : Nat) (ps : Array Value) : List (Addr × Obj) :=
  (an, PySem.W.listOf nv.toArray n1) :: (ar, PySem.W.listOf rv.toArray n2) :: (tb, PySem.W.listOf tv.toArray n3) :: (au, PySem.W.listOf uv.toArray n4) :: (16, tabObj ps) :: (c, oc) :: R
theorem LG_R {an ar tb au c : Addr} {oc : Obj} {R : List (Addr × Obj)} {nv rv tv uv : List Value} {n1 n2 n3 n4 : Nat} {ps : Array Value} : ∀ p ∈ R, p ∈ LG an ar tb au c oc R nv rv tv uv n1 n2 n3 n4 ps := fun p hp => .tail _ (.tail _ (.tail _ (.tail _ (.tail _ (.tail _ hp)))))
theorem LG_ne {an ar tb au c I : Addr} {oc : Obj} {R : List (Addr × Obj)} {nv rv tv uv nv' rv' tv' uv' : List Value} {n1 n2 n3 n4 m1 m2 m3 m4 : Nat} {ps ps' : Array Value} (h : ∀ p ∈ LG an ar tb au c oc R nv rv tv uv n1 n2 n3 n4 ps, p.1 ≠ I) : ∀ p ∈ LG an ar tb au c oc R nv' rv' tv' uv' m1 m2 m3 m4 ps', p.1 ≠ I := fun p hp => by
  rcases List.mem_cons.mp hp with rfl | hp
  · have q := h _ (List.Mem.head _); exact q
  · rcases List.mem_cons.mp hp with rfl | hp
    · have q := h _ (List.Mem.tail _ (List.Mem.head _)); exact q
    · rcases List.mem_cons.mp hp with rfl | hp
      · have q := h _ (List.Mem.tail _ (List.Mem.tail _ (List.Mem.head _))); exact q
      · rcases List.mem_cons.mp hp with rfl | hp
        · have q := h _ (List.Mem.tail _ (List.Mem.tail _ (List.Mem.tail _ (List.Mem.head _)))); exact q
        · rcases List.mem_cons.mp hp with rfl | hp
          · have q := h _ (List.Mem.tail _ (List.Mem.tail _ (List.Mem.tail _ (List.Mem.tail _ (List.Mem.head _))))); exact q
          · exact h p (.tail _ (.tail _ (.tail _ (.tail _ (.tail _ hp)))))
theorem St1.start (R : List (Addr × Obj)) (ds : List Int) : St1 R ds 0 [] [] [] [] [] [] [] where
  names := .nil
  rowA := .nil
  rowS := List.Pairwise.nil
  rowP := List.Perm.refl _
  tabA := .nil
  tabS := List.Pairwise.nil
  tabP := List.Perm.refl _
  rul := .nil
  nd := List.nodup_nil
  mem := fun r => by simp
theorem news_in5 {g h : Heap} {L : Addr} {y a b c d e : Addr × Obj} {nw R : List (Addr × Obj)} (N : News g L h (y :: nw)) (hR : ∀ p ∈ R, p ∈ nw) (ha : a ∈ R) (hb : b ∈ R) (hc : c ∈ R) (hd : d ∈ R) (he : e ∈ R) : News g L h (a :: b :: c :: d :: e :: y :: nw) := fun p hp => N p (by
  rcases List.mem_cons.mp hp with rfl | hp
  · exact .tail _ (hR _ ha)
  · rcases List.mem_cons.mp hp with rfl | hp
    · exact .tail _ (hR _ hb)
    · rcases List.mem_cons.mp hp with rfl | hp
      · exact .tail _ (hR _ hc)
      · rcases List.mem_cons.mp hp with rfl | hp
        · exact .tail _ (hR _ hd)
        · rcases List.mem_cons.mp hp with rfl | hp
          · exact .tail _ (hR _ he)
          · exact hp)
theorem dist7 {D a1 a2 a3 a4 a5 a6 a7 : Addr} {R : List (Addr × Obj)} (h1 : a1 ≠ D) (h2 : a2 ≠ D) (h3 : a3 ≠ D) (h4 : a4 ≠ D) (h5 : a5 ≠ D) (h6 : a6 ≠ D) (h7 : a7 ≠ D) (hR : ∀ p ∈ R, p.1 ≠ D) {o1 o2 o3 o4 o5 o6 o7 : Obj} :
    ∀ p ∈ (a1, o1) :: (a2, o2) :: (a3, o3) :: (a4, o4) :: (a5, o5) :: (a6, o6) :: (a7, o7) :: R, p.1 ≠ D := fun p hp => by
  simp only [List.mem_cons] at hp
  rcases hp with rfl | rfl | rfl | rfl | rfl | rfl | rfl | hp
  · exact h1
  · exact h2
  · exact h3
  · exact h4
  · exact h5
  · exact h6
  · exact h7
  · exact hR p hp
/-! lists of texts as data -/
def datOf (r : List Str) : Dat := .list (r.map Dat.str)
theorem datOf_inj {a b : List Str} (h : datOf a = datOf b) : a = b := by
  unfold datOf at h
  injection h with h
  exact (List.map_inj_right fun _ _ e => by injection e).mp h
theorem dats_strs {news : List (Addr × Obj)} {vs : List Value} {fs : List Str} (h : StrsAre vs fs) : DatAll news vs (fs.map Dat.str) := by
  induction h with
  | nil => exact .nil
  | cons x t _ ih => exact .cons (.str x t) ih
theorem FsAre.dats {news : List (Addr × Obj)} {vs : List Value} {fss : List (List Str)} (h : FsAre news vs fss) : DatAll news vs (fss.map datOf) := by
  induction h with
  | nil => exact .nil
  | cons hm hf _ ih => exact .cons (.list hm (dats_strs hf)) ih
theorem field_ok {f : Str} (h : f = Str.ofString "a" ∨ f = Str.ofString "b" ∨ f = Str.ofString "a_b" ∨ f = Str.ofString "a.b") : PyData.strOk f = true := by
  rcases h with rfl | rfl | rfl | rfl <;> decide +kernel
theorem datOf_ok {r : List Str} (h : FF r) : kqdOk 8 (datOf r) = true := by
  unfold datOf
  rw [kqdOk, List.all_eq_true]
  intro d hd
  obtain ⟨f, hf, rfl⟩ := List.mem_map.mp hd
  rw [kqdOk]
  exact field_ok (h f hf)
theorem datOf_mem {r : List Str} {rs : List (List Str)} : datOf r ∈ rs.map datOf ↔ r ∈ rs := by
  rw [List.mem_map]
  exact ⟨fun ⟨q, hq, e⟩ => datOf_inj e ▸ hq, fun h => ⟨r, h, rfl⟩⟩
theorem joinOk_ff {fs : List Str} (h : FF fs) (hl : fs.length ≤ 100) : JoinOk (Str.ofString "-") fs = true :=
  joinOk_of hl (fun t ht => Nat.le_trans (field_hi (h t ht)).2.2.2.1 (by decide)) (by decide +kernel)
theorem nm_len (x : Int) : (nm x).length ≤ 100 := J_len (fields_ff x) (by have := fields_len x; omega)
theorem take_next {ds : List Int} {i : Nat} {x : Int} (h : ds[i]? = some x) : ds.take (i + 1) = ds.take i ++ [x] := by rw [List.take_add_one, h]; rfl
theorem ins_perm {row : List Str} {ds : List Int} {i : Nat} {x : Int} (h : ds[i]? = some x) (hp : row.Perm ((ds.take i).map nm)) (k : Nat) : (insAt row k (nm x)).Perm ((ds.take (i + 1)).map nm) := by
  rw [take_next h, List.map_append]
  refine (insAt_perm row k (nm x)).trans ?_
  refine (List.Perm.cons _ hp).trans ?_
  exact (List.perm_append_singleton _ _).symm
theorem St1.no {R : List (Addr × Obj)} {ds : List Int} {i : Nat} {nv rv tv uv : List Value} {row tab : List Str} {rs : List (List Str)} {x : Int} {t : Tok} {rv' : List Value} (h : St1 R ds i nv rv tv uv row tab rs) (hx : ds[i]? = some x) (hc : x.fmod 2 = 0 → fieldsOf x ∈ rs)
    (hr : StrsAre rv' (insAt row (cntR row (nm x)) (nm x))) : St1 R ds (i + 1) (nv ++ [.str (nm x) t]) rv' tv uv (insAt row (cntR row (nm x)) (nm x)) tab rs where
  names := by rw [take_next hx, List.map_append]; exact StrsAre.append' h.names (.cons _ _ .nil)
  rowA := hr
  rowS := insR_srt _ h.rowS
  rowP := ins_perm hx h.rowP _
  tabA := h.tabA
  tabS := h.tabS
  tabP := h.tabP
  rul := h.rul
  nd := h.nd
  mem := fun r => by
    rw [take_next hx, h.mem]
    constructor
    · rintro ⟨y, hy, e⟩; exact ⟨y, List.mem_append_left _ hy, e⟩
    · rintro ⟨y, hy, e1, e2⟩
      rcases List.mem_append.mp hy with hy | hy
      · exact ⟨y, hy, e1, e2⟩
      · have := List.mem_singleton.mp hy
        subst this
        subst e2
        exact (h.mem _).mp (hc e1)
theorem St1.yes {R : List (Addr × Obj)} {ds : List Int} {i : Nat} {nv rv tv uv : List Value} {row tab : List Str} {rs : List (List Str)} {x : Int} {t : Tok} {rv' tv' : List Value} {fi : Addr} {gv : List Value} {ng : Nat} (h : St1 R ds i nv rv tv uv row tab rs) (hx : ds[i]? = some x) (he : x.fmod 2 = 0) (hn : fieldsOf x ∉ rs)
    (hr : StrsAre rv' (insAt row (cntR row (nm x)) (nm x))) (ht : StrsAre tv' (insAt tab (cntL tab (nm x)) (nm x))) (hf : (fi, PySem.W.listOf gv.toArray ng) ∈ R) (hg : StrsAre gv (fieldsOf x)) :
    St1 R ds (i + 1) (nv ++ [.str (nm x) t]) rv' tv' (uv ++ [.ref fi]) (insAt row (cntR row (nm x)) (nm x)) (insAt tab (cntL tab (nm x)) (nm x)) (rs ++ [fieldsOf x]) where
  names := by rw [take_next hx, List.map_append]; exact StrsAre.append' h.names (.cons _ _ .nil)
  rowA := hr
  rowS := insR_srt _ h.rowS
  rowP := ins_perm hx h.rowP _
  tabA := ht
  tabS := insL_srt _ h.tabS
  tabP := by
    rw [List.map_append]
    refine (insAt_perm tab _ (nm x)).trans ((List.Perm.cons _ h.tabP).trans ?_)
    exact (List.perm_append_singleton _ _).symm
  rul := h.rul.append (.cons hf hg .nil)
  nd := by
    rw [List.nodup_append]
    refine ⟨h.nd, by simp, fun a ha b hb => ?_⟩
    rw [List.mem_singleton.mp hb]
    rintro rfl
    exact hn ha
  mem := fun r => by
    rw [take_next hx, List.mem_append, h.mem]
    constructor
    · rintro (⟨y, hy, e⟩ | hr)
      · exact ⟨y, List.mem_append_left _ hy, e⟩
      · exact ⟨x, List.mem_append_right _ (.head _), he, (List.mem_singleton.mp hr).symm⟩
    · rintro ⟨y, hy, e1, e2⟩
      rcases List.mem_append.mp hy with hy | hy
      · exact .inl ⟨y, hy, e1, e2⟩
      · have := List.mem_singleton.mp hy
        subst this
        exact .inr (by rw [e2]; exact .head _)
theorem St1.lens {R : List (Addr × Obj)} {ds : List Int} {i : Nat} {nv rv tv uv : List Value} {row tab : List Str} {rs : List (List Str)} (h : St1 R ds i nv rv tv uv row tab rs) (hd : ds.length ≤ 11) (hr : rs.length ≤ i) (hi : i ≤ ds.length) : nv.length = i ∧ rv.length = i ∧ tv.length = rs.length ∧ uv.length = rs.length ∧ rs.length ≤ 11 := by
  have a := StrsAre.length h.names
  have b := StrsAre.length h.rowA
  have c := StrsAre.length h.tabA
  have d := h.rul.length
  have e := h.rowP.length_eq
  have f := h.tabP.length_eq
  simp only [List.length_map, List.length_take] at a e f
  omega
/-- lists lie apart from the code table and the cell -/
theorem seq_ne {g h : Heap} {L a b : Addr} {nw : List (Addr × Obj)} {o o' : Obj} {xs : Array Value} {n : Nat} (N : News g L h nw) (ha : (a, o) ∈ nw) (hb : (b, o') ∈ nw) (hd : o.data = .seq xs n) (hd' : ∀ ys k, o'.data ≠ .seq ys k) : a ≠ b := by
  rintro rfl
  have e := (N _ ha).1.symm.trans (N _ hb).1
  have e2 : o = o' := Option.some.inj e
  exact hd' xs n (by rw [← e2]; exact hd)
theorem MsAre.keep {g h : Heap} {L c : Addr} {nw : List (Addr × Obj)} {oc : Obj} {ps : Array Value} {vs : List Value} {xs : List Int} (N : News g L h nw) (h16 : (16, tabObj ps) ∈ nw) (hc : (c, oc) ∈ nw) (hoc : oc.data = .cell none) (H : MsAre nw vs xs) : MsAre (nw.filter fun p => decide (p.1 ≠ 16 ∧ p.1 ≠ c)) vs xs := by
  have k : ∀ a o ys n, (a, o) ∈ nw → o.data = .seq ys n → (a, o) ∈ nw.filter fun p => decide (p.1 ≠ 16 ∧ p.1 ≠ c) := fun a o ys n ha hd => by
    rw [List.mem_filter]
    refine ⟨ha, decide_eq_true ⟨seq_ne N ha h16 hd (by intro _ _ q; cases q), seq_ne N ha hc hd (by intro _ _ q; rw [hoc] at q; cases q)⟩⟩
  induction H with
  | nil => exact .nil
  | cons a b c' d e _ ih => exact .cons (k _ _ _ _ a rfl) (k _ _ _ _ b rfl) (k _ _ _ _ c' rfl) d e ih
theorem keep_mem {g h : Heap} {L c : Addr} {nw : List (Addr × Obj)} {oc : Obj} {ps : Array Value} (N : News g L h nw) (h16 : (16, tabObj ps) ∈ nw) (hc : (c, oc) ∈ nw) (hoc : oc.data = .cell none) {a : Addr} {o : Obj} {ys : Array Value} {n : Nat} (ha : (a, o) ∈ nw) (hd : o.data = .seq ys n) : (a, o) ∈ nw.filter fun p => decide (p.1 ≠ 16 ∧ p.1 ≠ c) := by
  rw [List.mem_filter]
  exact ⟨ha, decide_eq_true ⟨seq_ne N ha h16 hd (by intro _ _ q; cases q), seq_ne N ha hc hd (by intro _ _ q; rw [hoc] at q; cases q)⟩⟩
theorem keep_ne {c : Addr} {nw : List (Addr × Obj)} : ∀ p ∈ nw.filter fun p => decide (p.1 ≠ 16 ∧ p.1 ≠ c), p ∈ nw ∧ p.1 ≠ 16 ∧ p.1 ≠ c := fun p hp => by
  rw [List.mem_filter] at hp
  exact ⟨hp.1, of_decide_eq_true hp.2⟩
section
variable {prog : Program} {w : World} {A : Around} {E : Value → Shared → Prop} {s : Shared} {h₀ : Heap} {L : Addr} {m : Str → Option Value}
theorem append_hd {D : Addr} {ys : List Value} {n : Nat} {x : Value} {rest : List (Addr × Obj)} {Q : Value → Shared → Prop} (F : Fr h₀ L s.heap m) (N : News h₀ L s.heap ((D, PySem.W.listOf ys.toArray n) :: rest)) (hne : ∀ p ∈ rest, p.1 ≠ D) (hsz : ys.length ≤ 1000)
    (h : ∀ h', Fr h₀ L h' m → News h₀ L h' ((D, PySem.W.listOf (ys ++ [x]).toArray (n + 1)) :: rest) → Q .none { s with heap := h' }) :
    wpAny (model prog w) A (call (.builtin "list.append") [.ref D, x]) Q E s := by
  refine append_led F N (.head _) hsz fun h' F' N' => h h' F' fun p hp => N' p ?_
  rcases List.mem_cons.mp hp with rfl | hp
  · exact updL_self (.head _)
  · exact updL_ne (.tail _ hp) (hne p hp)
theorem join_led {l : Addr} {vs : List Value} {fs : List Str} {x : Str} {t : Tok} {Q : Value → Shared → Prop} (hl : s.heap.IsList l vs.toArray) (h : StrsAre vs fs) (hok : JoinOk x fs = true) (hq : ∀ t' k, Q (.str (Txt.join x fs) t') { s with toks := k }) :
    wpAny (model prog w) A (call (.builtin "str.join") [.str x t, .ref l]) Q E s := by
  obtain ⟨z, rfl, hz⟩ : ∃ z : List (Str × Tok), vs = strValues z ∧ z.map (·.1) = fs := by
    clear hl hq hok
    induction h with
    | nil => exact ⟨[], rfl, rfl⟩
    | cons y u _ ih => obtain ⟨z, e1, e2⟩ := ih; exact ⟨(y, u) :: z, by rw [e1]; rfl, by rw [← e2]; rfl⟩
  exact SC.join hl hz hok hq
end
section
variable {prog : Program} {w : World} {A : Around} {E : Value → Shared → Prop} {s : Shared} {h₀ : Heap} {L : Addr}
theorem notIn_fs {a fi : Addr} {uv gv : List Value} {k ng : Nat} {news R : List (Addr × Obj)} {rs : List (List Str)} {r : List Str} {Q : Value → Shared → Prop} (N : News h₀ L s.heap news) (ma : (a, PySem.W.listOf uv.toArray k) ∈ news) (hF : FsAre R uv rs) (sub : ∀ p ∈ R, p ∈ news)
    (hx : (fi, PySem.W.listOf gv.toArray ng) ∈ R) (hg : StrsAre gv r) (hrs : ∀ q ∈ rs, FF q) (hr : FF r) (hu : A.units + 64 < cLine) (h1 : r ∈ rs → Q (.bool false) s) (h2 : r ∉ rs → Q (.bool true) s) :
    wpAny (model prog w) A (compareOp .NotIn (.ref fi) (.ref a)) Q E s := by
  refine kqd_notIn (ds := rs.map datOf) (d := datOf r) N ma rfl rfl hF.dats sub (.list hx (dats_strs hg)) sub ?_ (datOf_ok hr) hu ?_
  · intro d hd
    obtain ⟨q, hq, rfl⟩ := List.mem_map.mp hd
    exact datOf_ok (hrs q hq)
  · classical
    by_cases h : r ∈ rs
    · rw [decide_eq_true (datOf_mem.mpr h)]; exact h1 h
    · rw [decide_eq_false fun q => h (datOf_mem.mp q)]; exact h2 h
end
theorem St1.ff {R : List (Addr × Obj)} {ds : List Int} {i : Nat} {nv rv tv uv : List Value} {row tab : List Str} {rs : List (List Str)} (h : St1 R ds i nv rv tv uv row tab rs) : ∀ q ∈ rs, FF q ∧ q ≠ [] ∧ q.length ≤ 8 := fun q hq => by
  obtain ⟨y, _, _, rfl⟩ := (h.mem q).mp hq
  exact ⟨fields_ff y, fields_ne y, fields_len y⟩
theorem strOk_J {fs : List Str} (h : FF fs) : PyData.strOk (J fs) = true := by
  unfold PyData.strOk
  rw [← Array.all_toList, J_chs, List.all_eq_true]
  have hf : ∀ f ∈ chs fs, ∀ c ∈ f, c < 0x110000 := fun f hf c hc => by
    obtain ⟨g, hg, rfl⟩ := List.mem_map.mp hf
    have := field_ok (h g hg)
    unfold PyData.strOk at this
    rw [← Array.all_toList, List.all_eq_true] at this
    simpa using this c hc
  have hj : ∀ r : List (List Nat), (∀ f ∈ r, ∀ c ∈ f, c < 0x110000) → ∀ c ∈ jd r, c < 0x110000 := fun r hr c hc => by
    unfold jd at hc
    obtain ⟨f, hf, hc⟩ := List.mem_flatMap.mp hc
    rcases List.mem_cons.mp hc with rfl | hc
    · decide
    · exact hr f hf c hc
  cases hcs : chs fs with
  | nil => intro c hc; simp [jl] at hc
  | cons p r =>
    rw [hcs] at hf
    intro c hc
    rw [jl_cons] at hc
    have : c < 0x110000 := by
      rcases List.mem_append.mp hc with hc | hc
      · exact hf p (.head _) c hc
      · exact hj r (fun f hf' => hf f (.tail _ hf')) c hc
    simpa using this
theorem okS_J {gss : List (List Str)} (h : ∀ g ∈ gss, FF g) : OkS (gss.map J) := fun x hx => by
  obtain ⟨g, hg, rfl⟩ := List.mem_map.mp hx
  exact strOk_J (h g hg)
theorem okS_ff {fs : List Str} (h : FF fs) : OkS fs := fun x hx => field_ok (h x hx)
theorem St1.three {R : List (Addr × Obj)} {ds tl : List Int} {nv rv tv uv : List Value} {row tab : List Str} {rs : List (List Str)} (h : St1 R ds ds.length nv rv tv uv row tab rs) (hd : ds = [0, 3174, 1573, 162, 4007, 91] ++ tl) (_ : True) : 2 ≤ rs.length := by
  have h1 : fieldsOf 0 ∈ rs := (h.mem _).mpr ⟨0, by rw [List.take_length, hd]; simp, by decide, rfl⟩
  have h2 : fieldsOf 162 ∈ rs := (h.mem _).mpr ⟨162, by rw [List.take_length, hd]; simp, by decide, rfl⟩
  have hne : fieldsOf 0 ≠ fieldsOf 162 := by decide +kernel
  match rs, h1, h2 with
  | [a], h1, h2 => exact absurd ((List.mem_singleton.mp h1).trans (List.mem_singleton.mp h2).symm) hne
  | _ :: _ :: _, _, _ => simp
theorem cntL_dot (row : List Str) (x : Str) : cntL row x ≤ cntL row (x ++ Str.ofString ".") := by
  unfold cntL
  refine List.countP_mono_left fun y _ h => ?_
  have h' : y.cps.toList < x.cps.toList := of_decide_eq_true h
  have hx : ¬ (x ++ Str.ofString ".").cps.toList < x.cps.toList := by
    rw [Str.cps_append, Array.toList_append]
    exact pre_nlt (fun _ => Nat.lt_irrefl _) _ _
  exact decide_eq_true (ltS_of_lt_of_not (x := y) (y := x) (z := x ++ Str.ofString ".") h' hx)
theorem dist9 {D a1 a2 a3 a4 a5 a6 a7 a8 a9 : Addr} {R : List (Addr × Obj)} (h1 : a1 ≠ D) (h2 : a2 ≠ D) (h3 : a3 ≠ D) (h4 : a4 ≠ D) (h5 : a5 ≠ D) (h6 : a6 ≠ D) (h7 : a7 ≠ D) (h8 : a8 ≠ D) (h9 : a9 ≠ D) (hR : ∀ p ∈ R, p.1 ≠ D) {o1 o2 o3 o4 o5 o6 o7 o8 o9 : Obj} :
    ∀ p ∈ (a1, o1) :: (a2, o2) :: (a3, o3) :: (a4, o4) :: (a5, o5) :: (a6, o6) :: (a7, o7) :: (a8, o8) :: (a9, o9) :: R, p.1 ≠ D := fun p hp => by
  simp only [List.mem_cons] at hp
  rcases hp with rfl | rfl | rfl | rfl | rfl | rfl | rfl | rfl | rfl | hp
  · exact h1
  · exact h2
  · exact h3
  · exact h4
  · exact h5
  · exact h6
  · exact h7
  · exact h8
  · exact h9
  · exact hR p hp
theorem sub3 {x y z : Addr × Obj} {nw nw' : List (Addr × Obj)} (h : ∀ p ∈ nw, p ∈ nw') : ∀ p ∈ x :: y :: z :: nw, p ∈ x :: y :: z :: nw' := fun p hp => by
  rcases List.mem_cons.mp hp with rfl | hp
  · exact .head _
  · rcases List.mem_cons.mp hp with rfl | hp
    · exact .tail _ (.head _)
    · rcases List.mem_cons.mp hp with rfl | hp
      · exact .tail _ (.tail _ (.head _))
      · exact .tail _ (.tail _ (.tail _ (h p hp)))
end Mine
end

section
open PySem PySem.W PyProof.Rows PySem.Calls PySem.Spec
namespace Mine
theorem my_post {M : Model} {A : Around} {cd : Code} {s s₁ : Shared} {cw : ClaimW} {cl : Str → Option Addr} {mean : ExcName → Option Value} {args : List WData} {tabs : List (Addr × Addr)} (hT : TabsAt tabs s₁.heap) (hr : ∀ a x, cw.raises a x = false) (hp : cw.post args (.bool true) args = true)
    (h : codeAny M A cd (fun r s' => r = .ok (.ret (.bool true)) ∧ (∀ b o, (ghostOf s₁.heap tabs).get? b = some o → s'.heap.get? b = some o) ∧ s'.os = s₁.os ∧ AllBare s'.gens ∧ GrownAll tabs s'.heap) s) : codeAny M A cd (GoodWG cw cl mean args s₁) s :=
  codeAny_mono h fun r s' ⟨hc, hk, hos, hg, hgr⟩ => by
    have keep : ∀ b o, b ∉ tabs.map (·.2) → s₁.heap.get? b = some o → s'.heap.get? b = some o := fun b o hb e => hk b o (ghost_ne e hb)
    have grown : ∀ b o, b ∈ tabs.map (·.2) → s₁.heap.get? b = some o → isCodeTable s₁.heap b ∧ o = tabObj #[] ∧ ∃ ps, s'.heap.get? b = some (tabObj ps) := fun b o hb e => by
      obtain ⟨q, hq, rfl⟩ := List.mem_map.mp hb
      have e2 := (hT q hq).2
      rw [e] at e2
      exact ⟨((hT q hq).1.tab (hT q hq).2).isCodeTable, Option.some.inj e2, hgr.get q hq⟩
    subst hc
    refine ⟨.inl ⟨_, _, [], rfl, fun _ => hr _ _, ReadsW.bool true, hp, fun _ => ⟨List.nodup_nil, fun _ hm => (nomatch hm)⟩⟩, ⟨fun b o e => ?_, fun b o e => ?_⟩, hos, hg⟩
    · by_cases hb : b ∈ tabs.map (·.2)
      · obtain ⟨ht, rfl, ps, hP⟩ := grown b o hb e
        exact .inr (.inl ⟨ht, rfl, #[], ps, rfl, by rw [Array.empty_append]; exact hP⟩)
      · exact .inl (keep b o hb e)
    · by_cases hb : b ∈ tabs.map (·.2)
      · obtain ⟨_, _, ps, hP⟩ := grown b o hb e
        exact ⟨_, hP⟩
      · exact ⟨o, keep b o hb e⟩
theorem tab16 {w : World} {p : Program} {loose : List Str} {mean : ExcName → Option Value} {mg mb : Str → Option Value} {h : Heap} (T : Top p loose mean mg mb h) (X : (hd.heap_39 w.params).In h)
    (hf : ∃ d, d ∈ recsOf p ∧ d.name = Str.ofString "_platform") : TabsAt [(20, 16)] h := by
  obtain ⟨d, hd', hn⟩ := hf
  obtain ⟨a, o, fd, c, P, h1, h2, h3, h4, h5, h6⟩ := T.tab d hd'
  rw [hn] at h1
  have e1 : mg (Str.ofString "_platform") = some (.ref 21) := mg_of X T.g (by kernel_rfl)
  rw [e1] at h1
  injection h1 with h1
  injection h1 with h1
  subst h1
  have C := codeHd_of_K (c := 20) (P := 16) X (by kernel_rfl)
  have hfn : ∃ o' : Obj, ∃ fd' : FuncData, h.get? 21 = some o' ∧ o'.data = .func fd' ∧ fd'.code = .ref 20 := by
    have e : ∃ o' : Obj, ∃ fd' : FuncData, (hd.heap_39 w.params).lookup 21 = some o' ∧ o'.data = .func fd' ∧ fd'.code = .ref 20 := ⟨_, _, rfl, rfl, rfl⟩
    obtain ⟨o', fd', e2, e3, e4⟩ := e
    exact ⟨o', fd', X _ _ e2, e3, e4⟩
  obtain ⟨o', fd', e2, e3, e4⟩ := hfn
  rw [h2] at e2
  cases e2
  rw [h3] at e3
  cases e3
  rw [h4] at e4
  cases e4
  have hP : P = 16 := by
    obtain ⟨o1, vs1, _, _, _, _, _, _, _, q1, q2, q3, q4, _⟩ := C
    obtain ⟨⟨o2, vs2, r1, r2, r3, r4⟩, _⟩ := h6
    rw [q1] at r1
    cases r1
    rw [q3] at r3
    cases r3
    rw [q4] at r4
    cases r4
    rfl
  subst hP
  exact List.forall_mem_cons.mpr ⟨⟨C, h6.2⟩, fun _ h => nomatch h⟩
end Mine
end

section
open PySem PySem.W PyProof.Rows PySem.Calls PySem.Spec
set_option maxHeartbeats 8000000
namespace Mine
open LCg LCt
theorem ints_take : ∀ {vs : List Value} {ns : List Int}, IntsAre vs ns → ∀ k : Nat, IntsAre (vs.take k) (ns.take k)
  | _, _, _, 0 => .nil
  | _, _, .nil, _ + 1 => .nil
  | _, _, .cons y t h, k + 1 => .cons y t (ints_take h k)
theorem sub_end {I C D a b c : Addr × Obj} {nw : List (Addr × Obj)} : ∀ p ∈ I :: C :: D :: a :: b :: c :: nw, p ∈ a :: b :: c :: I :: C :: D :: nw := fun p hp => by
  simp only [List.mem_cons] at hp ⊢
  rcases hp with h | h | h | h | h | h | h
  · exact .inr (.inr (.inr (.inl h)))
  · exact .inr (.inr (.inr (.inr (.inl h))))
  · exact .inr (.inr (.inr (.inr (.inr (.inl h)))))
  · exact .inl h
  · exact .inr (.inl h)
  · exact .inr (.inr (.inl h))
  · exact .inr (.inr (.inr (.inr (.inr (.inr h)))))
theorem off3_new {I C D t fa fi : Addr} {oI oC oD o1 o2 o3 : Obj} {nw : List (Addr × Obj)} (h : Off3 I C D nw) (q : ∀ p ∈ (I, oI) :: (C, oC) :: (D, oD) :: nw, p.1 < fa) (q4 : fa < fi) (q5 : fi < t) : Off3 I C D ((t, o1) :: (fa, o2) :: (fi, o3) :: nw) := by
  have a : I < fa := q _ (.head _)
  have b : C < fa := q _ (.tail _ (.head _))
  have c : D < fa := q _ (.tail _ (.tail _ (.head _)))
  have q6 := Nat.lt_trans q4 q5
  exact ⟨⟨Nat.ne_of_gt (Nat.lt_trans a q6), Nat.ne_of_gt (Nat.lt_trans b q6), Nat.ne_of_gt (Nat.lt_trans c q6)⟩, ⟨Nat.ne_of_gt a, Nat.ne_of_gt b, Nat.ne_of_gt c⟩, ⟨Nat.ne_of_gt (Nat.lt_trans a q4), Nat.ne_of_gt (Nat.lt_trans b q4), Nat.ne_of_gt (Nat.lt_trans c q4)⟩, h⟩
theorem obj_of {a : Addr} {o : Obj} {nw : List (Addr × Obj)} (h : (a, o) ∈ nw) : ∃ oc : Obj, oc = o := ⟨o, rfl⟩
theorem off1_mem {D : Addr} : ∀ {l : List (Addr × Obj)}, Off1 D l → ∀ p ∈ l, p.1 ≠ D
  | [], _, _, h => nomatch h
  | q :: l, x, p, h => by
    rcases List.mem_cons.mp h with e | h
    · subst e; exact x.1
    · exact off1_mem x.2 p h
theorem news_draws {g h : Heap} {L a : Addr} {vs ws : List Value} {ns ms : List Int} {rest : List (Addr × Obj)} {x y : Addr × Obj} (N : News g L h ((a, { cls := .type "list", data := .seq (vs ++ ws).toArray }) :: x :: y :: rest)) (hv : IntsAre vs ns) (hw : IntsAre ws ms) :
    ∃ (dv : List Value) (ds : List Int), ds = ns ++ ms ∧ IntsAre dv ds ∧ News g L h ((a, PySem.W.listOf dv.toArray 0) :: rest) :=
  ⟨vs ++ ws, ns ++ ms, rfl, hv.append hw, fun p hp => N p (by
    rcases List.mem_cons.mp hp with rfl | hp
    · exact .head _
    · exact .tail _ (.tail _ (.tail _ hp)))⟩
theorem listKeeps {g h : Heap} {l : Addr} {vs : Array Value} (x : g.IsList l vs) (k : ∀ b o, g.get? b = some o → h.get? b = some o) : h.IsList l vs := let ⟨o, e, r⟩ := x; ⟨o, k _ _ e, r⟩
theorem rec_mem {p : Program} {x : Str} (h : ((recsOf p).find? (fun e => e.name == x)).isSome = true) : ∃ d, d ∈ recsOf p ∧ d.name = x := by
  obtain ⟨d, e⟩ := Option.isSome_iff_exists.mp h
  exact ⟨d, List.mem_of_find?_eq_some e, eq_of_beq (List.find?_some (p := fun e : DefRec => e.name == x) e)⟩
noncomputable def stms (P : Params) : List Stmt := match (fdAt P 88).body with | .stmts b => b | _ => []
noncomputable def scp (P : Params) : Scope := (fdAt P 88).scope
end Mine
end

section
open PySem PySem.W PyProof.Rows PySem.Calls PySem.Spec
set_option maxHeartbeats 8000000
namespace Mine
open LCg LCt
local macro_rules | `(tactic| walk_at "eval Name") => `(tactic| (k_here; (fail_if_success (with_reducible show wpAny _ _ (eval (Expr.Name _ _) (compEnvC _ _ _ _)) _ _ _)); k_dflt (refine' nameX_L ?F ?v ?_ ?a ?b; (case F => k_asm); (case a => rfl); (case b => rfl); (case v => assumption); k_whole)))
local macro_rules | `(tactic| walk_at "loadName") => `(tactic| (k_here; k_dflt (refine' PyProof.Rows.ldn ?F ?v ?_ ?a ?b; (case F => k_asm); (case a => rfl); (case b => rfl); (case v => assumption); k_whole)))
local macro_rules | `(tactic| walk_at "m.no") => `(tactic| (
  (fail_if_success (with_reducible show wpAny _ _ (exec (Stmt.While _ _ _ _) _) _ _ _)); (fail_if_success (with_reducible show wpAny _ _ (exec (Stmt.For _ _ _ _ _) _) _ _ _))
  (fail_if_success (with_reducible show wpAny _ _ (call (Value.ref _) _ _) _ _ _)); (fail_if_success (with_reducible show wpAny _ _ (eval (Expr.ListComp _ _ _ _) _) _ _ _))
  (fail_if_success (with_reducible show wpAny _ _ (eval (Expr.GeneratorExp _ _ _ _) _) _ _ _)); (fail_if_success (with_reducible show wpAny _ _ (exec (Stmt.Assign _ (Expr.ListComp _ _ _ _) _) _) _ _ _))
  (fail_if_success (with_reducible show wpAny _ _ (subscriptTail _ _ (Value.ref _) _) _ _ _)); (fail_if_success (with_reducible show wpAny _ _ (compareOp _ (Value.ref _) (Value.ref _)) _ _ _))
  (fail_if_success (with_reducible show wpAny _ _ (call (Value.builtin "str.split") _ _) _ _ _)); (fail_if_success (with_reducible show wpAny _ _ (call (Value.builtin "str.join") _ _) _ _ _)); (fail_if_success (with_reducible show wpAny _ _ (call (Value.builtin "sorted") _ _) _ _ _)); (fail_if_success (with_reducible show wpAny _ _ (call (Value.type "filter") _ _) _ _ _))))
local macro_rules | `(tactic| walk_at "m.go") => `(tactic| repeat' ((walk_at "m.no"); (first | (k_unfold; (try dsimp only)) | walk1 | dsimp only)))
local macro_rules | `(tactic| walk_at "m.enter") => `(tactic| (
  (case kA => exact rfl); (case kF => exact rfl); (case kK => assumption)
  (case k1 => k_asm); (case k2 => k_asm); (case k3 => k_asm); (case k4 => k_asm); (case k5 => k_asm)
  (case k6 => k_is); (case k7 => k_is); (case k8 => ktr_room)
  (case c5 => decide); (case kB => exact locs rfl); (case c2 => exact rfl); (case c3 => exact rfl); (case c4 => exact rfl)))
local macro_rules | `(tactic| walk_at "m.not") => `(tactic| ((walk_at "m.noc"); (fail_if_success (with_reducible show LCt.CompSrcT _ _ _ _ _ _ _ _ _ _ _ _ _ _ _))))
local macro_rules | `(tactic| walk_at "m.got") => `(tactic| repeat' ((walk_at "m.not"); (first | (k_unfold; (try dsimp only)) | walk1 | dsimp only)))
local macro_rules | `(tactic| walk_at "m.nop") => `(tactic| ((walk_at "m.noc"); (fail_if_success (with_reducible show LCp.SrcLP _ _ _ _ _ _ _ _ _ _ _ _ _ _ _))))
local macro_rules | `(tactic| walk_at "m.gop") => `(tactic| repeat' ((walk_at "m.nop"); (first | (k_unfold; (try dsimp only)) | walk1 | dsimp only)))
local macro_rules | `(tactic| walk_at "m.noc") => `(tactic| ((walk_at "m.no"); (fail_if_success (with_reducible show CompSrc _ _ _ _ _ _ _ _ _ _ _ _ _ _)); (fail_if_success (with_reducible show CompEnd _ _ _ _ _ _ _ _ _ _ _ _ _ _))))
local macro_rules | `(tactic| walk_at "m.goc") => `(tactic| repeat' ((walk_at "m.noc"); (first | (k_unfold; (try dsimp only)) | walk1 | dsimp only)))
theorem loop1 (w : World) {p : Program} {loose : List Str} {mean : ExcName → Option Value} {mg mb : Str → Option Value} {gh : Heap} {LL fa : Addr} {cd : Value} {sc : Scope} {st : Stmt} (hst : (stms w.params)[3]? = some st) (hsc : scp w.params = sc)
  {da D an ar tb au : Addr} {dv ys : List Value} {ds : List Int} {R : List (Addr × Obj)} {oc : Obj} {m₀ : Str → Option Value} {s : Shared} {Q : Flow → Shared → Prop} {E : Value → Shared → Prop}
  (BB : Below callerA gh [] gh) (XX : (hd.heap_39 w.params).In gh) (TT : Top p loose mean mg mb gh) (hC : CodeHd gh 20 16) (hdv : IntsAre dv ds) (hdl : dv.length = ds.length) (hdn : 6 ≤ ds.length ∧ ds.length ≤ 11) (hyl : ys.length = ds.length) (hmsR : MsAre R ys ds)
  (hdaR : (da, PySem.W.listOf dv.toArray 0) ∈ R) (hDR : (D, PySem.W.listOf ys.toArray ys.length) ∈ R) (nRan : ∀ p ∈ R, p.1 ≠ an) (nRar : ∀ p ∈ R, p.1 ≠ ar) (nRtb : ∀ p ∈ R, p.1 ≠ tb) (nRau : ∀ p ∈ R, p.1 ≠ au) (nR16 : ∀ p ∈ R, p.1 ≠ 16) (nRC : ∀ p ∈ R, p.1 ≠ LL + 1) (l16L : @LT.lt Nat _ 16 (LL + 1)) (nCan : @LT.lt Nat _ (LL + 1) an) (n16an : @LT.lt Nat _ 16 an) (o12 : @LT.lt Nat _ an ar) (o23 : @LT.lt Nat _ ar tb) (o34 : @LT.lt Nat _ tb au)
  (hg : AllBare s.gens) (dR : oc.data = .cell none) (htk0 : 1 ≤ s.toks)
  (F6 : Fr gh LL s.heap m₀) (N8 : News gh LL s.heap ((da, PySem.W.listOf dv.toArray 0) :: LG an ar tb au (LL + 1) oc R [] [] [] [] 0 0 0 0 #[]))
  (km1 : m₀ "draws" = some (.ref da)) (km2 : m₀ "machines" = some (.ref D)) (km3 : m₀ "names" = some (.ref an)) (km4 : m₀ "row" = some (.ref ar)) (km5 : m₀ "table" = some (.ref tb)) (km6 : m₀ "rules" = some (.ref au))
  (hE : PassesOwn (model Challenge.rw_ph0096_01.row.prog w) (callerA.deeper (envX (Str.ofString "law") sc LL fa cd [(Str.ofString "rule", LL + 1)])) (envX (Str.ofString "law") sc LL fa cd [(Str.ofString "rule", LL + 1)]) E)
  (done : ∀ {nv rv tv uv n1 n2 n3 n4 ps row tab rs} h tk gs m2, Fr gh LL h m2 → News gh LL h (LG an ar tb au (LL + 1) oc R nv rv tv uv n1 n2 n3 n4 ps) → St1 R ds ds.length nv rv tv uv row tab rs → rs.length ≤ ds.length → TriplesOk ps.toList → AllBare gs → m2 "draws" = some (.ref da) ∧ m2 "machines" = some (.ref D) ∧ m2 "names" = some (.ref an) ∧ m2 "row" = some (.ref ar) ∧ m2 "table" = some (.ref tb) ∧ m2 "rules" = some (.ref au) → 1 ≤ tk → Q .next { s with heap := h, toks := tk, gens := gs }) :
  wpAny (model Challenge.rw_ph0096_01.row.prog w) (callerA.deeper (envX (Str.ofString "law") sc LL fa cd [(Str.ofString "rule", LL + 1)])) (exec st (envX (Str.ofString "law") sc LL fa cd [(Str.ofString "rule", LL + 1)])) Q E s := by
  unfold stms at hst
  unfold scp at hsc
  conv at hst => lhs; whnf
  conv at hsc => lhs; whnf
  obtain rfl := Option.some.inj hst
  subst hsc
  clear hst
  obtain ⟨h, gs, dr, tk, os⟩ := s
  unfold LG at N8
  refine wpAny_For ?_
  refine wpAny_with_toks (n := 1) htk0 ?_
  walk_at "m.go"
  (rename 1 ≤ _ => htk1)
  (try dsimp only at htk1)
  (rename Fr _ _ _ _ => F7); (rename News _ _ _ _ => N7)
  rename IsRange _ _ _ _ _ _ _ _ => hRg
  refine' wpAny_pyIter_range ?hr ?hs ?_
  case hr => exact hRg
  case hs => exact small_one (by decide) (by decide) (by omega) (by omega)
  have N8 : News gh LL _ (LG an ar tb au (LL + 1) oc R [] [] [] [] 0 0 0 0 #[]) := fun p hp => N7 p (.tail _ hp)
  have F9 := F7.push { cls := .type "range_iterator", data := .fields #[rawInt 0, rawInt (Builtin.Range.rangeSize 0 ((ds.length : Nat) : Int) 1), rawInt 1] }
  have N9 := News.push F7 N8 { cls := .type "range_iterator", data := .fields #[rawInt 0, rawInt (Builtin.Range.rangeSize 0 ((ds.length : Nat) : Int) 1), rawInt 1] }
  have hI := fun p hp => Nat.ne_of_lt (Heap.lt_size (N8 p hp).1)
  obtain ⟨I, eI⟩ := fr_size F7
  simp only [← eI] at N9 hI ⊢
  clear eI N7 F7 N8 hRg
  refine For_led (nm := _) (n := ds.length) (Ob := fun i o => o = RObj 0 i ds.length) (P := fun i v => ∃ t, v = .int (i : Int) t)
    (fun i m nw gs => ∃ nv rv tv uv n1 n2 n3 n4 ps row tab rs, nw = LG an ar tb au (LL + 1) oc R nv rv tv uv n1 n2 n3 n4 ps ∧ St1 R ds i nv rv tv uv row tab rs ∧ rs.length ≤ i ∧ TriplesOk ps.toList ∧ AllBare gs ∧
      m "draws" = some (.ref da) ∧ m "machines" = some (.ref D) ∧ m "names" = some (.ref an) ∧ m "row" = some (.ref ar) ∧ m "table" = some (.ref tb) ∧ m "rules" = some (.ref au))
    ?_ F9 N9 ?_ ⟨[], [], [], [], 0, 0, 0, 0, #[], [], [], [], rfl, St1.start R ds, Nat.le_refl _, trivial, hg, km1, km2, km3, km4, km5, km6⟩ ?_ ?_ ?_ ?_
  · rintro i m nw' gs ⟨nv, rv, tv, uv, n1, n2, n3, n4, ps, row, tab, rs, rfl, _⟩ p hp
    exact LG_ne hI p hp
  · unfold RObj
    rw [rangeSize_one, if_pos (by omega)]
    have e : ((ds.length : Nat) : Int) - ((0 : Nat) : Int) = ((ds.length : Nat) : Int) - 0 := by omega
    rw [e]
    rfl
  · intro i m nw' gs h tk o Q' E' hi _ _ N ho q
    exact range_step hi N ho q
  · intro m nw' gs h tk o Q' E' _ _ N ho q
    exact range_stop rfl N ho q
  · rintro i v m nw' gs h tk o hi ⟨tv', rfl⟩ ⟨nv, rv, tv, uv, n1, n2, n3, n4, ps, row, tab, rs, rfl, hSt, hrl, htr, hgs, em1, em2, em3, em4, em5, em6⟩ F3 N3 ho htk3
    have htkc : 1 ≤ tk := Nat.le_trans htk1 htk3
    clear F9 N9
    obtain ⟨x, hx⟩ : ∃ x, ds[i]? = some x := ⟨_, List.getElem?_eq_getElem hi⟩
    obtain ⟨mt, fa', fi', fv, gv, nf, ng, tn, e1, e2, e3, e4, e5, e6⟩ := hmsR.get i x hx
    obtain ⟨l1, l2, l3, l4, l5⟩ := hSt.lens hdn.2 hrl (Nat.le_of_lt hi)
    have N4 : News gh LL h ((mt, { cls := .type "tuple", data := .seq #[.ref fa', .ref fi'] tn }) :: (fa', PySem.W.listOf fv.toArray nf) :: (fi', PySem.W.listOf gv.toArray ng) :: (da, PySem.W.listOf dv.toArray 0) :: (D, PySem.W.listOf ys.toArray ys.length) :: (I, o) :: LG an ar tb au (LL + 1) oc R nv rv tv uv n1 n2 n3 n4 ps) := news_in5 N3 (fun p hp => LG_R p hp) e2 e3 e4 hdaR hDR
    clear N3
    unfold LG at N4
    walk_at "m.go"
    refine item_litK (isL (vs := ys) (by k_asm) (.tail _ (.tail _ (.tail _ (.tail _ (.head _)))))) (v := .ref mt) (by omega) (by omega) (by rw [Int.toNat_natCast]; exact e1) ?_
    walk_at "m.go"
    (rename Fr _ _ _ _ => F5); (rename News _ _ _ _ => N5)
    have hfl := StrsAre.length e5
    have hfl2 := facts_len x
    have hgl := StrsAre.length e6
    have hgl2 := fields_len x
    have hxm : nm x = Txt.join (Str.ofString "-") (fieldsOf x) := rfl
    have iI := fun p hp => LG_ne (nv' := []) (rv' := []) (tv' := []) (uv' := []) (m1 := 0) (m2 := 0) (m3 := 0) (m4 := 0) (ps' := #[]) hI p hp
    have i1 : I ≠ an := fun q => (iI _ (.head _)) q.symm
    have i2 : I ≠ ar := fun q => (iI _ (.tail _ (.head _))) q.symm
    have i3 : I ≠ tb := fun q => (iI _ (.tail _ (.tail _ (.head _)))) q.symm
    have i4 : I ≠ au := fun q => (iI _ (.tail _ (.tail _ (.tail _ (.head _))))) q.symm
    have i5 : I ≠ 16 := fun q => (iI _ (.tail _ (.tail _ (.tail _ (.tail _ (.head _)))))) q.symm
    have c1 : (16 : Nat) ≠ an := Nat.ne_of_lt n16an
    have c2 : (16 : Nat) ≠ ar := Nat.ne_of_lt (Nat.lt_trans n16an o12)
    have c3 : (16 : Nat) ≠ tb := Nat.ne_of_lt (Nat.lt_trans (Nat.lt_trans n16an o12) o23)
    have c4 : (16 : Nat) ≠ au := Nat.ne_of_lt (Nat.lt_trans (Nat.lt_trans (Nat.lt_trans n16an o12) o23) o34)
    have d1 : LL + 1 ≠ an := Nat.ne_of_lt nCan
    have d2 : LL + 1 ≠ ar := Nat.ne_of_lt (Nat.lt_trans nCan o12)
    have d3 : LL + 1 ≠ tb := Nat.ne_of_lt (Nat.lt_trans (Nat.lt_trans nCan o12) o23)
    have d4 : LL + 1 ≠ au := Nat.ne_of_lt (Nat.lt_trans (Nat.lt_trans (Nat.lt_trans nCan o12) o23) o34)
    have p12 := Nat.ne_of_lt o12
    have p13 := Nat.ne_of_lt (Nat.lt_trans o12 o23)
    have p14 := Nat.ne_of_lt (Nat.lt_trans (Nat.lt_trans o12 o23) o34)
    have p23 := Nat.ne_of_lt o23
    have p24 := Nat.ne_of_lt (Nat.lt_trans o23 o34)
    have p34 := Nat.ne_of_lt o34
    refine star_seq F5 N5 (.tail _ (.head _)) rfl rfl (.inl rfl) (List.toList_toArray ..) (by rw [List.size_toArray]; unfold sizeLine; omega) ?_
    intro h7 F7 N7
    dsimp only
    walk_at "m.go"
    refine platform_spec w (xs := factsOf x) (ps := ps) (by k_asm) F7 (by k_asm) (fun p hp => N7 p (by
      rcases List.mem_cons.mp hp with rfl | hp
      · exact .tail _ (.tail _ (.tail _ (.tail _ (.tail _ (.tail _ (.tail _ (.tail _ (.tail _ (.tail _ (.head _))))))))))
      · rcases List.mem_cons.mp hp with rfl | hp
        · exact .head _
        · rcases List.mem_cons.mp hp with rfl | hp
          · exact .tail _ (.head _)
          · rcases List.mem_cons.mp hp with rfl | hp
            · exact .tail _ (.tail _ (.head _))
            · rcases List.mem_cons.mp hp with rfl | hp
              · exact .tail _ (.tail _ (.tail _ (.head _)))
              · rcases List.mem_cons.mp hp with rfl | hp
                · exact .tail _ (.tail _ (.tail _ (.tail _ (.head _))))
                · rcases List.mem_cons.mp hp with rfl | hp
                  · exact .tail _ (.tail _ (.tail _ (.tail _ (.tail _ (.head _)))))
                  · rcases List.mem_cons.mp hp with rfl | hp
                    · exact .tail _ (.tail _ (.tail _ (.tail _ (.tail _ (.tail _ (.head _))))))
                    · rcases List.mem_cons.mp hp with rfl | hp
                      · exact .tail _ (.tail _ (.tail _ (.tail _ (.tail _ (.tail _ (.tail _ (.head _)))))))
                      · rcases List.mem_cons.mp hp with rfl | hp
                        · exact .tail _ (.tail _ (.tail _ (.tail _ (.tail _ (.tail _ (.tail _ (.tail _ (.head _))))))))
                        · rcases List.mem_cons.mp hp with rfl | hp
                          · exact .tail _ (.tail _ (.tail _ (.tail _ (.tail _ (.tail _ (.tail _ (.tail _ (.tail _ (.head _)))))))))
                          · rcases List.mem_cons.mp hp with rfl | hp
                            · exact .tail _ (.tail _ (.tail _ (.tail _ (.tail _ (.tail _ (.tail _ (.tail _ (.tail _ (.tail _ (.tail _ (.head _)))))))))))
                            · exact .tail _ (.tail _ (.tail _ (.tail _ (.tail _ (.tail _ (.tail _ (.tail _ (.tail _ (.tail _ (.tail _ (.tail _ (hp)))))))))))))) (by k_asm) rfl hC htr ?q2 hgs (by first | assumption | exact Nat.le_succ_of_le (by assumption) | exact Nat.le_add_left 1 _ | (repeat (first | assumption | apply Nat.le_succ_of_le))) e5 (by omega) (facts_sz x) (by ktr_room) (by ktr_units) ?_
    case q2 =>
      intro p hp
      rcases List.mem_cons.mp hp with rfl | hp
      · exact nR16 _ e2
      · rcases List.mem_cons.mp hp with rfl | hp
        · exact nR16 _ e3
        · rcases List.mem_cons.mp hp with rfl | hp
          · exact nR16 _ e4
          · rcases List.mem_cons.mp hp with rfl | hp
            · exact nR16 _ hdaR
            · rcases List.mem_cons.mp hp with rfl | hp
              · exact nR16 _ hDR
              · simp only [List.mem_cons] at hp
                rcases hp with rfl | rfl | rfl | rfl | rfl | rfl | hp
                · exact i5
                · exact c1.symm
                · exact c2.symm
                · exact c3.symm
                · exact c4.symm
                · exact Nat.ne_of_gt l16L
                · exact nR16 p hp
    intro t8 ps8 h8 tk8 gs8 htr8 hgs8 F8 N8
    rw [plat_machine]
    have N9 : News gh LL h8 ((an, PySem.W.listOf (nv).toArray (n1)) :: (fi', PySem.W.listOf gv.toArray ng) :: (I, o) :: (ar, PySem.W.listOf (rv).toArray (n2)) :: (tb, PySem.W.listOf (tv).toArray (n3)) :: (au, PySem.W.listOf (uv).toArray (n4)) :: (16, tabObj ps8) :: (LL + 1, oc) :: R) := fun p hp => N8 p (by
      rcases List.mem_cons.mp hp with rfl | hp
      · exact .tail _ (.tail _ (.tail _ (.tail _ (.tail _ (.tail _ (.tail _ (.head _)))))))
      · rcases List.mem_cons.mp hp with rfl | hp
        · exact .tail _ (.tail _ (.tail _ (.head _)))
        · rcases List.mem_cons.mp hp with rfl | hp
          · exact .tail _ (.tail _ (.tail _ (.tail _ (.tail _ (.tail _ (.head _))))))
          · rcases List.mem_cons.mp hp with rfl | hp
            · exact .tail _ (.tail _ (.tail _ (.tail _ (.tail _ (.tail _ (.tail _ (.tail _ (.head _))))))))
            · rcases List.mem_cons.mp hp with rfl | hp
              · exact .tail _ (.tail _ (.tail _ (.tail _ (.tail _ (.tail _ (.tail _ (.tail _ (.tail _ (.head _)))))))))
              · rcases List.mem_cons.mp hp with rfl | hp
                · exact .tail _ (.tail _ (.tail _ (.tail _ (.tail _ (.tail _ (.tail _ (.tail _ (.tail _ (.tail _ (.head _))))))))))
                · rcases List.mem_cons.mp hp with rfl | hp
                  · exact .head _
                  · rcases List.mem_cons.mp hp with rfl | hp
                    · exact .tail _ (.tail _ (.tail _ (.tail _ (.tail _ (.tail _ (.tail _ (.tail _ (.tail _ (.tail _ (.tail _ (.head _)))))))))))
                    · exact .tail _ (.tail _ (.tail _ (.tail _ (.tail _ (.tail _ (.tail _ (.tail _ (.tail _ (.tail _ (.tail _ (.tail _ (hp)))))))))))))
    clear N8 N7 N5 F7 F5
    dsimp only
    walk_at "m.go"
    (rename Fr _ _ _ _ => F10); (rename News _ _ _ _ => N10)
    refine append_hd F10 N10 (dist7 (fun q => nRan _ e4 q) i1 p12.symm p13.symm p14.symm c1 d1 nRan) (by omega) ?_
    intro h11 F11 N11
    dsimp only
    clear F10 N10
    walk_at "m.go"
    have hnv : (nv ++ [Value.str (J (fieldsOf x)) t8])[((i : Int)).toNat]? = some (.str (J (fieldsOf x)) t8) := by
      rw [Int.toNat_natCast, List.getElem?_append_right (by omega), l1]
      simp
    refine item_litK (isL (vs := nv ++ [Value.str (J (fieldsOf x)) t8]) (by k_asm) (.head _)) (v := .str (J (fieldsOf x)) t8) (by omega) (by omega) hnv ?_
    walk_at "m.go"
    refine join_led (isL (vs := gv) (by k_asm) (.tail _ (.head _))) e6 (joinOk_ff (fields_ff x) (by omega)) fun t12 tk12 => ?_
    dsimp only
    walk_at "m.go"
    all_goals first
      | (exfalso
         have hne : (J (fieldsOf x) != Txt.join (Str.ofString "-") (fieldsOf x)) = true := by assumption
         simp at hne
         done)
      | skip
    refine item_litK (isL (vs := nv ++ [Value.str (J (fieldsOf x)) t8]) (by k_asm) (.head _)) (v := .str (J (fieldsOf x)) t8) (by omega) (by omega) hnv ?_
    walk_at "m.go"
    (rename Fr _ _ _ _ => F13); (rename News _ _ _ _ => N13)
    refine insort_right_spec w (l := ar) (xs := row) (vs := rv) (n := n2) (by k_asm) F13 (by k_asm) (fun p hp => N13 p (by
      rcases List.mem_cons.mp hp with rfl | hp
      · exact .tail _ (.tail _ (.tail _ (.head _)))
      · rcases List.mem_cons.mp hp with rfl | hp
        · exact .head _
        · rcases List.mem_cons.mp hp with rfl | hp
          · exact .tail _ (.head _)
          · rcases List.mem_cons.mp hp with rfl | hp
            · exact .tail _ (.tail _ (.head _))
            · rcases List.mem_cons.mp hp with rfl | hp
              · exact .tail _ (.tail _ (.tail _ (.tail _ (.head _))))
              · rcases List.mem_cons.mp hp with rfl | hp
                · exact .tail _ (.tail _ (.tail _ (.tail _ (.tail _ (.head _)))))
                · rcases List.mem_cons.mp hp with rfl | hp
                  · exact .tail _ (.tail _ (.tail _ (.tail _ (.tail _ (.tail _ (.head _))))))
                  · rcases List.mem_cons.mp hp with rfl | hp
                    · exact .tail _ (.tail _ (.tail _ (.tail _ (.tail _ (.tail _ (.tail _ (.head _)))))))
                    · exact .tail _ (.tail _ (.tail _ (.tail _ (.tail _ (.tail _ (.tail _ (.tail _ (hp)))))))))) (by k_asm) rfl (dist7 p12 (fun q => nRar _ e4 q) i2 p23.symm p24.symm c2 d2 nRar) hSt.rowA (by omega) hSt.rowS (by ktr_room) (by ktr_units) ?_
    intro rw1 h14 tk14 hrw1 F14 N14
    dsimp only
    clear F13 N13
    walk_at "m.go"
    (rename Fr _ _ _ _ => F15); (rename News _ _ _ _ => N15)
    obtain ⟨tx, hdx⟩ := ints_at hdv i (by omega)
    have hdx2 : ds.getD i 0 = x := by simp [List.getD, hx]
    rw [hdx2] at hdx
    refine item_litK (isL (vs := dv) (n := 0) N15 (.tail _ (.tail _ (.tail _ (.tail _ (.tail _ (.tail _ (.tail _ (.tail _ (hdaR)))))))))) (v := .int x tx) (by omega) (by omega) (by rw [Int.toNat_natCast]; exact hdx) ?_
    walk_at "m.go"
    · refine notIn_fs N15 (.tail _ (.tail _ (.tail _ (.tail _ (.tail _ (.head _)))))) hSt.rul (fun p hp => .tail _ (.tail _ (.tail _ (.tail _ (.tail _ (.tail _ (.tail _ (.tail _ (hp))))))))) e4 e6 (fun q hq => (hSt.ff q hq).1) (fields_ff x) (by ktr_units) (fun hin => ?_) (fun hout => ?_)
      · walk_at "m.go"
        have hno : x.fmod 2 = 0 → fieldsOf x ∈ rs := fun _ => hin
        (rename Fr _ _ _ _ => FE); (rename News _ _ _ _ => NE)
        intro _
        exact ⟨_, LG an ar tb au (LL + 1) oc R (nv ++ [Value.str (J (fieldsOf x)) t8]) rw1 tv uv (n1 + 1) (n2 + 1) n3 n4 ps8, gs8, _, _, o, rfl, FE, fun p hp => NE p (by
          rcases List.mem_cons.mp hp with rfl | hp
          · exact .tail _ (.tail _ (.tail _ (.head _)))
          · rcases List.mem_cons.mp hp with rfl | hp
            · exact .tail _ (.head _)
            · rcases List.mem_cons.mp hp with rfl | hp
              · exact .head _
              · rcases List.mem_cons.mp hp with rfl | hp
                · exact .tail _ (.tail _ (.tail _ (.tail _ (.head _))))
                · rcases List.mem_cons.mp hp with rfl | hp
                  · exact .tail _ (.tail _ (.tail _ (.tail _ (.tail _ (.head _)))))
                  · rcases List.mem_cons.mp hp with rfl | hp
                    · exact .tail _ (.tail _ (.tail _ (.tail _ (.tail _ (.tail _ (.head _))))))
                    · rcases List.mem_cons.mp hp with rfl | hp
                      · exact .tail _ (.tail _ (.tail _ (.tail _ (.tail _ (.tail _ (.tail _ (.head _)))))))
                      · exact .tail _ (.tail _ (.tail _ (.tail _ (.tail _ (.tail _ (.tail _ (.tail _ (hp))))))))), ho, _, _, _, _, _, _, _, _, _, _, _, _, rfl, hSt.no hx hno hrw1, by omega, htr8, hgs8, em1, em2, em3, em4, em5, em6⟩
      · walk_at "m.go"
        (rename Fr _ _ _ _ => F16); (rename News _ _ _ _ => N16)
        have hev : x.fmod 2 = 0 := by assumption
        refine append_hd F16 (fun p hp => N16 p (by
          rcases List.mem_cons.mp hp with rfl | hp
          · exact .tail _ (.tail _ (.tail _ (.tail _ (.tail _ (.head _)))))
          · rcases List.mem_cons.mp hp with rfl | hp
            · exact .tail _ (.head _)
            · rcases List.mem_cons.mp hp with rfl | hp
              · exact .tail _ (.tail _ (.head _))
              · rcases List.mem_cons.mp hp with rfl | hp
                · exact .tail _ (.tail _ (.tail _ (.head _)))
                · rcases List.mem_cons.mp hp with rfl | hp
                  · exact .head _
                  · rcases List.mem_cons.mp hp with rfl | hp
                    · exact .tail _ (.tail _ (.tail _ (.tail _ (.head _))))
                    · rcases List.mem_cons.mp hp with rfl | hp
                      · exact .tail _ (.tail _ (.tail _ (.tail _ (.tail _ (.tail _ (.head _))))))
                      · rcases List.mem_cons.mp hp with rfl | hp
                        · exact .tail _ (.tail _ (.tail _ (.tail _ (.tail _ (.tail _ (.tail _ (.head _)))))))
                        · exact .tail _ (.tail _ (.tail _ (.tail _ (.tail _ (.tail _ (.tail _ (.tail _ (hp))))))))) : News gh LL _ ((au, PySem.W.listOf uv.toArray n4) :: _)) (dist7 p14 (fun q => nRau _ e4 q) i4 p24 p34 c4 d4 nRau) (by omega) ?_
        intro h17 F17 N17
        dsimp only
        clear F16 N16
        walk_at "m.go"
        refine item_litK (isL (vs := nv ++ [Value.str (J (fieldsOf x)) t8]) (by k_asm) (.tail _ (.head _))) (v := .str (J (fieldsOf x)) t8) (by omega) (by omega) hnv ?_
        walk_at "m.go"
        (rename Fr _ _ _ _ => F18); (rename News _ _ _ _ => N18)
        refine insort_left_spec w (l := tb) (xs := tab) (vs := tv) (n := n3) (by k_asm) F18 (by k_asm) (fun p hp => N18 p (by
          rcases List.mem_cons.mp hp with rfl | hp
          · exact .tail _ (.tail _ (.tail _ (.tail _ (.tail _ (.head _)))))
          · rcases List.mem_cons.mp hp with rfl | hp
            · exact .tail _ (.head _)
            · rcases List.mem_cons.mp hp with rfl | hp
              · exact .tail _ (.tail _ (.head _))
              · rcases List.mem_cons.mp hp with rfl | hp
                · exact .tail _ (.tail _ (.tail _ (.head _)))
                · rcases List.mem_cons.mp hp with rfl | hp
                  · exact .tail _ (.tail _ (.tail _ (.tail _ (.head _))))
                  · rcases List.mem_cons.mp hp with rfl | hp
                    · exact .head _
                    · rcases List.mem_cons.mp hp with rfl | hp
                      · exact .tail _ (.tail _ (.tail _ (.tail _ (.tail _ (.tail _ (.head _))))))
                      · rcases List.mem_cons.mp hp with rfl | hp
                        · exact .tail _ (.tail _ (.tail _ (.tail _ (.tail _ (.tail _ (.tail _ (.head _)))))))
                        · exact .tail _ (.tail _ (.tail _ (.tail _ (.tail _ (.tail _ (.tail _ (.tail _ (hp)))))))))) (by k_asm) rfl (dist7 p13 (fun q => nRtb _ e4 q) i3 p23 p34.symm c3 d3 nRtb) hSt.tabA (by omega) hSt.tabS (by ktr_room) (by ktr_units) ?_
        intro tw1 h19 tk19 htw1 F19 N19
        dsimp only
        clear F18 N18
        walk_at "m.go"
        (rename Fr _ _ _ _ => FE); (rename News _ _ _ _ => NE)
        intro _
        exact ⟨_, LG an ar tb au (LL + 1) oc R (nv ++ [Value.str (J (fieldsOf x)) t8]) rw1 tw1 (uv ++ [Value.ref fi']) (n1 + 1) (n2 + 1) (n3 + 1) (n4 + 1) ps8, gs8, _, _, o, rfl, FE, fun p hp => NE p (by
          rcases List.mem_cons.mp hp with rfl | hp
          · exact .tail _ (.tail _ (.tail _ (.head _)))
          · rcases List.mem_cons.mp hp with rfl | hp
            · exact .tail _ (.head _)
            · rcases List.mem_cons.mp hp with rfl | hp
              · exact .tail _ (.tail _ (.tail _ (.tail _ (.head _))))
              · rcases List.mem_cons.mp hp with rfl | hp
                · exact .head _
                · rcases List.mem_cons.mp hp with rfl | hp
                  · exact .tail _ (.tail _ (.tail _ (.tail _ (.tail _ (.head _)))))
                  · rcases List.mem_cons.mp hp with rfl | hp
                    · exact .tail _ (.tail _ (.tail _ (.tail _ (.tail _ (.tail _ (.head _))))))
                    · rcases List.mem_cons.mp hp with rfl | hp
                      · exact .tail _ (.tail _ (.tail _ (.tail _ (.tail _ (.tail _ (.tail _ (.head _)))))))
                      · exact .tail _ (.tail _ (.tail _ (.tail _ (.tail _ (.tail _ (.tail _ (.tail _ (hp))))))))), ho, _, _, _, _, _, _, _, _, _, _, _, _, rfl, hSt.yes hx hev hout hrw1 htw1 e4 e6, by rw [List.length_append, List.length_singleton]; omega, htr8, hgs8, em1, em2, em3, em4, em5, em6⟩
    · have hodd : x.fmod 2 ≠ 0 := by assumption
      have hno : x.fmod 2 = 0 → fieldsOf x ∈ rs := fun q => absurd q hodd
      (rename Fr _ _ _ _ => FE); (rename News _ _ _ _ => NE)
      intro _
      exact ⟨_, LG an ar tb au (LL + 1) oc R (nv ++ [Value.str (J (fieldsOf x)) t8]) rw1 tv uv (n1 + 1) (n2 + 1) n3 n4 ps8, gs8, _, _, o, rfl, FE, fun p hp => NE p (by
        rcases List.mem_cons.mp hp with rfl | hp
        · exact .tail _ (.tail _ (.tail _ (.head _)))
        · rcases List.mem_cons.mp hp with rfl | hp
          · exact .tail _ (.head _)
          · rcases List.mem_cons.mp hp with rfl | hp
            · exact .head _
            · rcases List.mem_cons.mp hp with rfl | hp
              · exact .tail _ (.tail _ (.tail _ (.tail _ (.head _))))
              · rcases List.mem_cons.mp hp with rfl | hp
                · exact .tail _ (.tail _ (.tail _ (.tail _ (.tail _ (.head _)))))
                · rcases List.mem_cons.mp hp with rfl | hp
                  · exact .tail _ (.tail _ (.tail _ (.tail _ (.tail _ (.tail _ (.head _))))))
                  · rcases List.mem_cons.mp hp with rfl | hp
                    · exact .tail _ (.tail _ (.tail _ (.tail _ (.tail _ (.tail _ (.tail _ (.head _)))))))
                    · exact .tail _ (.tail _ (.tail _ (.tail _ (.tail _ (.tail _ (.tail _ (.tail _ (hp))))))))), ho, _, _, _, _, _, _, _, _, _, _, _, _, rfl, hSt.no hx hno hrw1, by omega, htr8, hgs8, em1, em2, em3, em4, em5, em6⟩
  · rintro m nw' gs' h tk ⟨nv, rv, tv, uv, n1, n2, n3, n4, ps, row, tab, rs, rfl, hSt, hrl, htr, hgs, em1, em2, em3, em4, em5, em6⟩ F3 N3 htk3
    exact done _ _ _ _ F3 N3 hSt hrl htr hgs ⟨em1, em2, em3, em4, em5, em6⟩ (Nat.le_trans htk1 htk3)
end Mine
end

section
open PySem PySem.W PyProof.Rows PySem.Calls PySem.Spec
set_option maxHeartbeats 8000000
namespace Mine
open LCg LCt
local macro_rules | `(tactic| walk_at "eval Name") => `(tactic| (k_here; (fail_if_success (with_reducible show wpAny _ _ (eval (Expr.Name _ _) (compEnvC _ _ _ _)) _ _ _)); k_dflt (refine' nameX_L ?F ?v ?_ ?a ?b; (case F => k_asm); (case a => rfl); (case b => rfl); (case v => assumption); k_whole)))
local macro_rules | `(tactic| walk_at "loadName") => `(tactic| (k_here; k_dflt (refine' PyProof.Rows.ldn ?F ?v ?_ ?a ?b; (case F => k_asm); (case a => rfl); (case b => rfl); (case v => assumption); k_whole)))
local macro_rules | `(tactic| walk_at "m.no") => `(tactic| (
  (fail_if_success (with_reducible show wpAny _ _ (exec (Stmt.While _ _ _ _) _) _ _ _)); (fail_if_success (with_reducible show wpAny _ _ (exec (Stmt.For _ _ _ _ _) _) _ _ _))
  (fail_if_success (with_reducible show wpAny _ _ (call (Value.ref _) _ _) _ _ _)); (fail_if_success (with_reducible show wpAny _ _ (eval (Expr.ListComp _ _ _ _) _) _ _ _))
  (fail_if_success (with_reducible show wpAny _ _ (eval (Expr.GeneratorExp _ _ _ _) _) _ _ _)); (fail_if_success (with_reducible show wpAny _ _ (exec (Stmt.Assign _ (Expr.ListComp _ _ _ _) _) _) _ _ _))
  (fail_if_success (with_reducible show wpAny _ _ (subscriptTail _ _ (Value.ref _) _) _ _ _)); (fail_if_success (with_reducible show wpAny _ _ (compareOp _ (Value.ref _) (Value.ref _)) _ _ _))
  (fail_if_success (with_reducible show wpAny _ _ (call (Value.builtin "str.split") _ _) _ _ _)); (fail_if_success (with_reducible show wpAny _ _ (call (Value.builtin "str.join") _ _) _ _ _)); (fail_if_success (with_reducible show wpAny _ _ (call (Value.builtin "sorted") _ _) _ _ _)); (fail_if_success (with_reducible show wpAny _ _ (call (Value.type "filter") _ _) _ _ _))))
local macro_rules | `(tactic| walk_at "m.go") => `(tactic| repeat' ((walk_at "m.no"); (first | (k_unfold; (try dsimp only)) | walk1 | dsimp only)))
local macro_rules | `(tactic| walk_at "m.enter") => `(tactic| (
  (case kA => exact rfl); (case kF => exact rfl); (case kK => assumption)
  (case k1 => k_asm); (case k2 => k_asm); (case k3 => k_asm); (case k4 => k_asm); (case k5 => k_asm)
  (case k6 => k_is); (case k7 => k_is); (case k8 => ktr_room)
  (case c5 => decide); (case kB => exact locs rfl); (case c2 => exact rfl); (case c3 => exact rfl); (case c4 => exact rfl)))
local macro_rules | `(tactic| walk_at "m.not") => `(tactic| ((walk_at "m.noc"); (fail_if_success (with_reducible show LCt.CompSrcT _ _ _ _ _ _ _ _ _ _ _ _ _ _ _))))
local macro_rules | `(tactic| walk_at "m.got") => `(tactic| repeat' ((walk_at "m.not"); (first | (k_unfold; (try dsimp only)) | walk1 | dsimp only)))
local macro_rules | `(tactic| walk_at "m.nop") => `(tactic| ((walk_at "m.noc"); (fail_if_success (with_reducible show LCp.SrcLP _ _ _ _ _ _ _ _ _ _ _ _ _ _ _))))
local macro_rules | `(tactic| walk_at "m.gop") => `(tactic| repeat' ((walk_at "m.nop"); (first | (k_unfold; (try dsimp only)) | walk1 | dsimp only)))
local macro_rules | `(tactic| walk_at "m.noc") => `(tactic| ((walk_at "m.no"); (fail_if_success (with_reducible show CompSrc _ _ _ _ _ _ _ _ _ _ _ _ _ _)); (fail_if_success (with_reducible show CompEnd _ _ _ _ _ _ _ _ _ _ _ _ _ _))))
local macro_rules | `(tactic| walk_at "m.goc") => `(tactic| repeat' ((walk_at "m.noc"); (first | (k_unfold; (try dsimp only)) | walk1 | dsimp only)))
theorem loop3 (w : World) {p : Program} {loose : List Str} {mean : ExcName → Option Value} {mg mb : Str → Option Value} {gh : Heap} {LL fa : Addr} {cd : Value} {sc : Scope} {st : Stmt} (hst : (stms w.params)[7]? = some st) (hsc : scp w.params = sc)
  {da D an ar tb au Dk : Addr} {dv ys ks nv rv tv uv : List Value} {ds : List Int} {R : List (Addr × Obj)} {ck n1 n2 n3 n4 : Nat} {ps : Array Value} {oc : Obj} {cv : Option Value} {row tab : List Str} {rs gss : List (List Str)} {m₀ : Str → Option Value} {s : Shared} {Q : Flow → Shared → Prop} {E : Value → Shared → Prop}
  (BB : Below callerA gh [] gh) (XX : (hd.heap_39 w.params).In gh) (TT : Top p loose mean mg mb gh) (hdn : 6 ≤ ds.length ∧ ds.length ≤ 11)
  (nR16 : ∀ p ∈ R, p.1 ≠ 16) (nRC : ∀ p ∈ R, p.1 ≠ LL + 1) (l16L : @LT.lt Nat _ 16 (LL + 1)) (nCan : @LT.lt Nat _ (LL + 1) an) (n16an : @LT.lt Nat _ 16 an) (o12 : @LT.lt Nat _ an ar) (o23 : @LT.lt Nat _ ar tb) (o34 : @LT.lt Nat _ tb au)
  (h16k : @LT.lt Nat _ 16 Dk) (d5 : LL + 1 ≠ Dk) (hSt : St1 R ds ds.length nv rv tv uv row tab rs) (hrl : rs.length ≤ ds.length) (dR : oc.data = .cell cv)
  (hks : FsAre R ks gss) (hgl : gss.length = ds.length) (hgf : ∀ g ∈ gss, FF g ∧ g ≠ [] ∧ g.length ≤ 8) (hrow : row = gss.map J) (hrow2 : Srt (gss.map J))
  (F11 : Fr gh LL s.heap m₀) (N12 : News gh LL s.heap ((LL + 1, oc) :: (Dk, PySem.W.listOf ks.toArray ck) :: (an, PySem.W.listOf nv.toArray n1) :: (ar, PySem.W.listOf rv.toArray n2) :: (tb, PySem.W.listOf tv.toArray n3) :: (au, PySem.W.listOf uv.toArray n4) :: (16, tabObj ps) :: R))
  (em1 : m₀ "draws" = some (.ref da)) (em2 : m₀ "machines" = some (.ref D)) (em3 : m₀ "names" = some (.ref an)) (em4 : m₀ "row" = some (.ref ar)) (em5 : m₀ "table" = some (.ref tb)) (em6 : m₀ "rules" = some (.ref au)) (em7 : m₀ "ranked" = some (.ref Dk))
  (hE : PassesOwn (model Challenge.rw_ph0096_01.row.prog w) (callerA.deeper (envX (Str.ofString "law") sc LL fa cd [(Str.ofString "rule", LL + 1)])) (envX (Str.ofString "law") sc LL fa cd [(Str.ofString "rule", LL + 1)]) E)
  (done : ∀ h tk m2 oc2 cv2, Fr gh LL h m2 → News gh LL h ((LL + 1, oc2) :: (Dk, PySem.W.listOf ks.toArray ck) :: (an, PySem.W.listOf nv.toArray n1) :: (ar, PySem.W.listOf rv.toArray n2) :: (tb, PySem.W.listOf tv.toArray n3) :: (au, PySem.W.listOf uv.toArray n4) :: (16, tabObj ps) :: R) → oc2.data = .cell cv2 → m2 "draws" = some (.ref da) ∧ m2 "machines" = some (.ref D) ∧ m2 "names" = some (.ref an) ∧ m2 "row" = some (.ref ar) ∧ m2 "table" = some (.ref tb) ∧ m2 "rules" = some (.ref au) → s.toks ≤ tk → Q .next { s with heap := h, toks := tk }) :
  wpAny (model Challenge.rw_ph0096_01.row.prog w) (callerA.deeper (envX (Str.ofString "law") sc LL fa cd [(Str.ofString "rule", LL + 1)])) (exec st (envX (Str.ofString "law") sc LL fa cd [(Str.ofString "rule", LL + 1)])) Q E s := by
  unfold stms at hst
  unfold scp at hsc
  conv at hst => lhs; whnf
  conv at hsc => lhs; whnf
  obtain rfl := Option.some.inj hst
  subst hsc
  clear hst
  obtain ⟨h, gs, dr, tk, os⟩ := s
  have hall : ds.take ds.length = ds := List.take_length ..
  have hrsff := hSt.ff
  obtain ⟨l1, l2, l3, l4, l5⟩ := hSt.lens hdn.2 hrl (Nat.le_refl _)
  have hkl := hks.length
  refine wpAny_For ?_
  walk_at "m.go"
  refine wpAny_pyIter_list (isL (vs := uv) N12 (.tail _ (.tail _ (.tail _ (.tail _ (.tail _ (.head _))))))) ?_
  have N13 := News.push F11 N12 { cls := .type "list_iterator", data := .fields #[.ref au, .int 0 0] }
  have F13 := F11.push { cls := .type "list_iterator", data := .fields #[.ref au, .int 0 0] }
  have hJ := fun p hp => Nat.ne_of_lt (Heap.lt_size (N12 p hp).1)
  obtain ⟨I3, eI3⟩ := fr_size F11
  simp only [← eI3] at N13 hJ ⊢
  clear eI3 N12 F11
  have d1 : LL + 1 ≠ an := Nat.ne_of_lt nCan
  have d2 : LL + 1 ≠ ar := Nat.ne_of_lt (Nat.lt_trans nCan o12)
  have d3 : LL + 1 ≠ tb := Nat.ne_of_lt (Nat.lt_trans (Nat.lt_trans nCan o12) o23)
  have d4 : LL + 1 ≠ au := Nat.ne_of_lt (Nat.lt_trans (Nat.lt_trans (Nat.lt_trans nCan o12) o23) o34)
  have hneC : ∀ p ∈ (Dk, PySem.W.listOf ks.toArray ck) :: (an, PySem.W.listOf nv.toArray n1) :: (ar, PySem.W.listOf rv.toArray n2) :: (tb, PySem.W.listOf tv.toArray n3) :: (au, PySem.W.listOf uv.toArray n4) :: (16, tabObj ps) :: R, p.1 ≠ LL + 1 := fun p hp => by
    simp only [List.mem_cons] at hp
    rcases hp with rfl | rfl | rfl | rfl | rfl | rfl | hp
    · exact d5.symm
    · exact d1.symm
    · exact d2.symm
    · exact d3.symm
    · exact d4.symm
    · exact Nat.ne_of_lt l16L
    · exact nRC p hp
  refine For_ledC (nm := _) (c := LL + 1) (n := uv.length) (Ob := LOb au) (P := fun i v => uv[i]? = some v)
    (fun i m' nw gs' => nw = (Dk, PySem.W.listOf ks.toArray ck) :: (an, PySem.W.listOf nv.toArray n1) :: (ar, PySem.W.listOf rv.toArray n2) :: (tb, PySem.W.listOf tv.toArray n3) :: (au, PySem.W.listOf uv.toArray n4) :: (16, tabObj ps) :: R ∧ gs' = gs ∧ m' "draws" = some (.ref da) ∧ m' "machines" = some (.ref D) ∧ m' "names" = some (.ref an) ∧ m' "row" = some (.ref ar) ∧ m' "table" = some (.ref tb) ∧ m' "rules" = some (.ref au) ∧ m' "ranked" = some (.ref Dk))
    ?_ (hJ _ (.head _)) (by rfl) F13 N13 dR ⟨rfl, rfl⟩ ⟨rfl, rfl, em1, em2, em3, em4, em5, em6, em7⟩ ?_ ?_ ?_ ?_
  · rintro i m' nw' gs' ⟨rfl, _⟩ p hp
    exact ⟨hJ p (.tail _ hp), hneC p hp⟩
  · rintro i m' nw' gs' h tk o Q' E' hi ⟨rfl, _⟩ F3 N3 ho q
    exact list_step (List.getElem?_eq_getElem hi) (isL N3 (.tail _ (.tail _ (.tail _ (.tail _ (.tail _ (.head _))))))) N3 ho q
  · rintro m' nw' gs' h tk o Q' E' ⟨rfl, _⟩ F3 N3 ho q
    exact list_stop rfl (isL N3 (.tail _ (.tail _ (.tail _ (.tail _ (.tail _ (.head _))))))) N3 ho q
  · rintro i v m' nw' gs' h tk o oc' hi hv ⟨rfl, rfl, k1, k2, k3, k4, k5, k6, k7⟩ F3 N3 hcell ho htk
    obtain ⟨r, hr⟩ : ∃ r, rs[i]? = some r := ⟨_, List.getElem?_eq_getElem (by omega)⟩
    obtain ⟨ra, ws, qn, e1, e2, e3⟩ := hSt.rul.get i r hr
    have hrf := hrsff r (List.mem_of_getElem? hr)
    have hJr : (Txt.join (Str.ofString "-") r).length ≤ 100 := J_len hrf.1 (by have := hrf.2.2; omega)
    rw [e1] at hv
    obtain rfl := Option.some.inj hv
    clear F13 N13
    walk_at "m.go"
    refine join_led (isL (vs := ws) N3 (.tail _ (.tail _ (.tail _ (.tail _ (.tail _ (.tail _ (.tail _ (.tail _ (e2)))))))))) e3 (joinOk_ff hrf.1 (by have := hrf.2.2; omega)) fun t6 tk6 => ?_
    dsimp only
    walk_at "m.go"
    (rename Fr _ _ _ _ => F4); (rename News _ _ _ _ => N4)
    refine bisect_left_gen w (n := n2) (vs := rv) (by k_asm) F4 (by k_asm) N4 (by k_asm) rfl (.tail _ (.tail _ (.tail _ (.tail _ (.head _))))) hSt.rowA (by omega) hSt.rowS (b57_2 (by k_in)) (by ktr_room) (by ktr_units) ?_
    intro t14 h14 tk14 F14 N14
    dsimp only
    walk_at "m.go"
    (rename Fr _ _ _ _ => F15); (rename News _ _ _ _ => N15)
    refine bisect_left_gen w (n := n2) (vs := rv) (by k_asm) F15 (by k_asm) N15 (by k_asm) rfl (.tail _ (.tail _ (.tail _ (.tail _ (.head _))))) hSt.rowA (by omega) hSt.rowS (b57_2 (by k_in)) (by ktr_room) (by ktr_units) ?_
    intro t16 h16 tk16 F16 N16
    dsimp only
    clear F15 N15
    walk_at "m.go"
    have hcab : cntL row (Txt.join (Str.ofString "-") r) ≤ cntL row (Txt.join (Str.ofString "-") r ++ Str.ofString ".") := cntL_dot _ _
    have hcb : cntL row (Txt.join (Str.ofString "-") r ++ Str.ofString ".") ≤ rv.length := by
      have := cntL_len (xs := row) (x := Txt.join (Str.ofString "-") r ++ Str.ofString ".")
      have := StrsAre.length hSt.rowA
      omega
    have hun : (row.drop (cntL row (Txt.join (Str.ofString "-") r))).take (cntL row (Txt.join (Str.ofString "-") r ++ Str.ofString ".") - cntL row (Txt.join (Str.ofString "-") r)) = (gss.filter fun g => decide (g.take r.length = r)).map J := by
      have hun := under_is (fun g hg => ⟨(hgf g hg).1, (hgf g hg).2.1⟩) hrf.1 hrf.2.1 hrow2
      rw [← hrow, List.drop_take] at hun
      exact hun
    refine PyProof.Rows.slice_list (items := rv.toArray) (lo := some ((cntL row (Txt.join (Str.ofString "-") r) : Nat) : Int)) (hi := some ((cntL row (Txt.join (Str.ofString "-") r ++ Str.ofString ".") : Nat) : Int)) (by k_asm) (by k_asm) (isL (vs := rv) (by k_asm) (.tail _ (.tail _ (.tail _ (.tail _ (.head _)))))) (.int _ _) (.int _ _) ?_ (hsz := by rw [List.size_toArray]; unfold sizeLine; omega)
    intro h17 F17 N17
    rw [slicePick_run _ _ _ (by rw [List.size_toArray]; exact hcb) hcab, List.toList_toArray] at N17
    dsimp only at F17 N17 ⊢
    have hu1 := StrsAre.take' (StrsAre.drop' hSt.rowA (cntL row (Txt.join (Str.ofString "-") r))) (cntL row (Txt.join (Str.ofString "-") r ++ Str.ofString ".") - cntL row (Txt.join (Str.ofString "-") r))
    rw [hun] at hu1
    generalize (rv.drop (cntL row (Txt.join (Str.ofString "-") r))).take (cntL row (Txt.join (Str.ofString "-") r ++ Str.ofString ".") - cntL row (Txt.join (Str.ofString "-") r)) = uw at *
    generalize h16.objs.size + 1 = Un at *
    walk_at "m.go"
    (rename Fr _ _ _ _ => F18); (rename News _ _ _ _ => N18)
    replace N18 : News gh LL _ ((Un, PySem.W.listOf uw.toArray 0) :: (I3, o) :: (LL + 1, oc') :: (Dk, PySem.W.listOf ks.toArray ck) :: (an, PySem.W.listOf nv.toArray n1) :: (ar, PySem.W.listOf rv.toArray n2) :: (tb, PySem.W.listOf tv.toArray n3) :: (au, PySem.W.listOf uv.toArray n4) :: (16, tabObj ps) :: R) := N18
    refine LCt.ListComp_T (F₀ := F18) (by with_unfolding_all rfl) (by decide) (by rfl) (by decide) (by rfl) ?_
    walk_at "m.got"
    refine LCt.CompSrcT.ledger rfl F18 N18 (.tail _ (.tail _ (.tail _ (.head _)))) (by rw [List.size_toArray]; unfold sizeLine; omega) fun g => ?_
    rw [List.size_toArray]
    refine CompRestT_inv (n := ks.length) (fun i zs nw => nw = (Un, PySem.W.listOf uw.toArray 0) :: (I3, o) :: (LL + 1, oc') :: (Dk, PySem.W.listOf ks.toArray ck) :: (an, PySem.W.listOf nv.toArray n1) :: (ar, PySem.W.listOf rv.toArray n2) :: (tb, PySem.W.listOf tv.toArray n3) :: (au, PySem.W.listOf uv.toArray n4) :: (16, tabObj ps) :: R ∧ StrsAre zs (((gss.take i).filter fun g => decide (g.take r.length = r)).map J)) ?_ ?_ ks.length 0 [] _ (Nat.zero_add _) ⟨rfl, .nil⟩
    · rintro i zs _ hi ⟨rfl, hzs⟩ v I oI C oC D' m₂ h tk E' hv hC' hx' F' N' off' ne'
      obtain ⟨q, hq⟩ : ∃ q, gss[i]? = some q := ⟨_, List.getElem?_eq_getElem (by omega)⟩
      obtain ⟨qa, qs, qn2, q1, q2, q3⟩ := hks.get i q hq
      have hqf := hgf q (List.mem_of_getElem? hq)
      have hql := StrsAre.length q3
      have hwl := StrsAre.length e3
      have hq8 := hqf.2.2
      have hr8 := hrf.2.2
      rw [List.getElem?_toArray, q1] at hv
      obtain rfl := Option.some.inj hv
      walk_at "m.goc"
      refine begins_spec w (f := qa) (r := ra) (fs := q) (rs := r) (fv := qs) (rv := ws) (nf := qn2) (nr := qn) (by k_asm) F' (by k_asm) N' (by k_asm) rfl (.tail _ (.tail _ (.tail _ (.tail _ (.tail _ (.tail _ (.tail _ (.tail _ (.tail _ (.tail _ (.tail _ (.tail _ (q2))))))))))))) q3 (.tail _ (.tail _ (.tail _ (.tail _ (.tail _ (.tail _ (.tail _ (.tail _ (.tail _ (.tail _ (.tail _ (.tail _ (e2))))))))))))) e3 (okS_ff hqf.1) (okS_ff hrf.1) (by omega) (by omega) (by ktr_room) (by ktr_units) ?_
      intro h20 tk20 F20 N20
      dsimp only
      have etk : gss.take (i + 1) = gss.take i ++ [q] := by rw [List.take_add_one, hq]; rfl
      by_cases hb : q.take r.length = r
      · rw [decide_eq_true hb]
        walk_at "m.goc"
        (try dsimp only [List.cons_append, List.nil_append])
        refine join_led (isL (vs := qs) N20 (.tail _ (.tail _ (.tail _ (.tail _ (.tail _ (.tail _ (.tail _ (.tail _ (.tail _ (.tail _ (.tail _ (.tail _ (q2)))))))))))))) q3 (joinOk_ff hqf.1 (by omega)) fun t21 tk21 => ?_
        refine CompEnd.intro F20 N20 _ (fun p hp => hp) off' (.inr ⟨_, .tail _ (.tail _ (.tail _ (.head _))), rfl, _, rfl⟩) ⟨rfl, ?_⟩
        rw [etk, List.filter_append, List.map_append, List.filter_cons, if_pos (decide_eq_true hb)]
        exact StrsAre.append' hzs (.cons _ _ .nil)
      · rw [decide_eq_false hb]
        walk_at "m.goc"
        refine CompEnd.intro F20 N20 _ (fun p hp => hp) off' (.inr ⟨_, .tail _ (.tail _ (.tail _ (.head _))), rfl, _, rfl⟩) ⟨rfl, ?_⟩
        rw [etk, List.filter_append, List.map_append, List.filter_cons, if_neg (by rw [decide_eq_false hb]; exact Bool.false_ne_true), List.filter_nil, List.map_nil, List.append_nil]
        exact hzs
    · rintro zs _ ⟨rfl, hzs⟩ D5 h18 tk18 F19 N19 o19
      rw [hkl, List.take_length] at hzs
      walk_at "m.goc"
      refine ne_strs (isL (vs := uw) N19 (.tail _ (.head _))) (isL (vs := zs) N19 (.head _)) hu1 hzs (okS_J fun g hg => (hgf g (List.mem_filter.mp hg).1).1) (okS_J fun g hg => (hgf g (List.mem_filter.mp hg).1).1) (by ktr_units) ?_
      rw [decide_eq_true rfl]
      dsimp only [Bool.not_true]
      walk_at "m.go"
      (rename Fr _ _ _ _ => FE); (rename News _ _ _ _ => NE)
      intro _
      refine ⟨_, _, gs', _, _, o, oc', _, rfl, FE, fun p hp => NE p (.tail _ (.tail _ hp)), hcell, ho, rfl, rfl, ?_⟩
      exact ⟨k1, k2, k3, k4, k5, k6, k7⟩
  · rintro m' nw' gs' h tk oc' cv ⟨rfl, rfl, k1, k2, k3, k4, k5, k6, k7⟩ F3 N3 hcell htk
    exact done _ _ _ _ _ F3 N3 hcell ⟨k1, k2, k3, k4, k5, k6⟩ htk
end Mine
end

section
open PySem PySem.W PyProof.Rows PySem.Calls PySem.Spec
set_option maxHeartbeats 8000000
namespace Mine
open LCg LCt
local macro_rules | `(tactic| walk_at "eval Name") => `(tactic| (k_here; (fail_if_success (with_reducible show wpAny _ _ (eval (Expr.Name _ _) (compEnvC _ _ _ _)) _ _ _)); k_dflt (refine' nameX_L ?F ?v ?_ ?a ?b; (case F => k_asm); (case a => rfl); (case b => rfl); (case v => assumption); k_whole)))
local macro_rules | `(tactic| walk_at "loadName") => `(tactic| (k_here; k_dflt (refine' PyProof.Rows.ldn ?F ?v ?_ ?a ?b; (case F => k_asm); (case a => rfl); (case b => rfl); (case v => assumption); k_whole)))
local macro_rules | `(tactic| walk_at "m.no") => `(tactic| (
  (fail_if_success (with_reducible show wpAny _ _ (exec (Stmt.While _ _ _ _) _) _ _ _)); (fail_if_success (with_reducible show wpAny _ _ (exec (Stmt.For _ _ _ _ _) _) _ _ _))
  (fail_if_success (with_reducible show wpAny _ _ (call (Value.ref _) _ _) _ _ _)); (fail_if_success (with_reducible show wpAny _ _ (eval (Expr.ListComp _ _ _ _) _) _ _ _))
  (fail_if_success (with_reducible show wpAny _ _ (eval (Expr.GeneratorExp _ _ _ _) _) _ _ _)); (fail_if_success (with_reducible show wpAny _ _ (exec (Stmt.Assign _ (Expr.ListComp _ _ _ _) _) _) _ _ _))
  (fail_if_success (with_reducible show wpAny _ _ (subscriptTail _ _ (Value.ref _) _) _ _ _)); (fail_if_success (with_reducible show wpAny _ _ (compareOp _ (Value.ref _) (Value.ref _)) _ _ _))
  (fail_if_success (with_reducible show wpAny _ _ (call (Value.builtin "str.split") _ _) _ _ _)); (fail_if_success (with_reducible show wpAny _ _ (call (Value.builtin "str.join") _ _) _ _ _)); (fail_if_success (with_reducible show wpAny _ _ (call (Value.builtin "sorted") _ _) _ _ _)); (fail_if_success (with_reducible show wpAny _ _ (call (Value.type "filter") _ _) _ _ _))))
local macro_rules | `(tactic| walk_at "m.go") => `(tactic| repeat' ((walk_at "m.no"); (first | (k_unfold; (try dsimp only)) | walk1 | dsimp only)))
local macro_rules | `(tactic| walk_at "m.enter") => `(tactic| (
  (case kA => exact rfl); (case kF => exact rfl); (case kK => assumption)
  (case k1 => k_asm); (case k2 => k_asm); (case k3 => k_asm); (case k4 => k_asm); (case k5 => k_asm)
  (case k6 => k_is); (case k7 => k_is); (case k8 => ktr_room)
  (case c5 => decide); (case kB => exact locs rfl); (case c2 => exact rfl); (case c3 => exact rfl); (case c4 => exact rfl)))
local macro_rules | `(tactic| walk_at "m.not") => `(tactic| ((walk_at "m.noc"); (fail_if_success (with_reducible show LCt.CompSrcT _ _ _ _ _ _ _ _ _ _ _ _ _ _ _))))
local macro_rules | `(tactic| walk_at "m.got") => `(tactic| repeat' ((walk_at "m.not"); (first | (k_unfold; (try dsimp only)) | walk1 | dsimp only)))
local macro_rules | `(tactic| walk_at "m.nop") => `(tactic| ((walk_at "m.noc"); (fail_if_success (with_reducible show LCp.SrcLP _ _ _ _ _ _ _ _ _ _ _ _ _ _ _))))
local macro_rules | `(tactic| walk_at "m.gop") => `(tactic| repeat' ((walk_at "m.nop"); (first | (k_unfold; (try dsimp only)) | walk1 | dsimp only)))
local macro_rules | `(tactic| walk_at "m.noc") => `(tactic| ((walk_at "m.no"); (fail_if_success (with_reducible show CompSrc _ _ _ _ _ _ _ _ _ _ _ _ _ _)); (fail_if_success (with_reducible show CompEnd _ _ _ _ _ _ _ _ _ _ _ _ _ _))))
local macro_rules | `(tactic| walk_at "m.goc") => `(tactic| repeat' ((walk_at "m.noc"); (first | (k_unfold; (try dsimp only)) | walk1 | dsimp only)))
local macro_rules | `(tactic| walk_at "m.nof") => `(tactic| ((walk_at "m.no"); (fail_if_success (with_reducible show wpAny _ _ (execs (Stmt.For _ _ _ _ _ :: _) _) _ _ _))))
local macro_rules | `(tactic| walk_at "m.gof") => `(tactic| repeat' ((walk_at "m.nof"); (first | (k_unfold; (try dsimp only)) | walk1 | dsimp only)))
theorem loop4 (w : World) {p : Program} {loose : List Str} {mean : ExcName → Option Value} {mg mb : Str → Option Value} {gh : Heap} {LL fa : Addr} {cd : Value} {sc : Scope} {st : Stmt} (hst : (stms w.params)[8]? = some st) (hsc : scp w.params = sc)
  {da D an ar tb au Dk : Addr} {dv ys ks nv rv tv uv : List Value} {ds : List Int} {R : List (Addr × Obj)} {ck n1 n2 n3 n4 : Nat} {ps : Array Value} {oc' : Obj} {cv : Option Value} {row tab : List Str} {rs : List (List Str)} {m' : Str → Option Value} {s : Shared} {Q : Flow → Shared → Prop} {E : Value → Shared → Prop}
  (BB : Below callerA gh [] gh) (XX : (hd.heap_39 w.params).In gh) (TT : Top p loose mean mg mb gh) (hC : CodeHd gh 20 16) (hdv : IntsAre dv ds) (hdl : dv.length = ds.length) (hdn : 6 ≤ ds.length ∧ ds.length ≤ 11) (hyl : ys.length = ds.length) (hmsR : MsAre R ys ds)
  (hdaR : (da, PySem.W.listOf dv.toArray 0) ∈ R) (hDR : (D, PySem.W.listOf ys.toArray ys.length) ∈ R) (nR16 : ∀ p ∈ R, p.1 ≠ 16) (nRC : ∀ p ∈ R, p.1 ≠ LL + 1) (l16L : @LT.lt Nat _ 16 (LL + 1)) (nCan : @LT.lt Nat _ (LL + 1) an) (n16an : @LT.lt Nat _ 16 an) (o12 : @LT.lt Nat _ an ar) (o23 : @LT.lt Nat _ ar tb) (o34 : @LT.lt Nat _ tb au)
  (h16k : @LT.lt Nat _ 16 Dk) (d5 : LL + 1 ≠ Dk) (hSt : St1 R ds ds.length nv rv tv uv row tab rs) (hrl : rs.length ≤ ds.length) (hgs : AllBare s.gens) (htr : TriplesOk ps.toList) (hcell : oc'.data = .cell cv)
  (F3 : Fr gh LL s.heap m') (N3 : News gh LL s.heap ((LL + 1, oc') :: (Dk, PySem.W.listOf ks.toArray ck) :: (an, PySem.W.listOf nv.toArray n1) :: (ar, PySem.W.listOf rv.toArray n2) :: (tb, PySem.W.listOf tv.toArray n3) :: (au, PySem.W.listOf uv.toArray n4) :: (16, tabObj ps) :: R))
  (k1 : m' "draws" = some (.ref da)) (k2 : m' "machines" = some (.ref D)) (k3 : m' "names" = some (.ref an)) (k4 : m' "row" = some (.ref ar)) (k5 : m' "table" = some (.ref tb)) (k6 : m' "rules" = some (.ref au))
  (hE : PassesOwn (model Challenge.rw_ph0096_01.row.prog w) (callerA.deeper (envX (Str.ofString "law") sc LL fa cd [(Str.ofString "rule", LL + 1)])) (envX (Str.ofString "law") sc LL fa cd [(Str.ofString "rule", LL + 1)]) E)
  (done : ∀ h tk gs m2 oc2 ps2, Fr gh LL h m2 → AllBare gs → TriplesOk ps2.toList → News gh LL h ((LL + 1, oc2) :: (Dk, PySem.W.listOf ks.toArray ck) :: (an, PySem.W.listOf nv.toArray n1) :: (ar, PySem.W.listOf rv.toArray n2) :: (tb, PySem.W.listOf tv.toArray n3) :: (au, PySem.W.listOf uv.toArray n4) :: (16, tabObj ps2) :: R) → Q .next { s with heap := h, toks := tk, gens := gs }) :
  wpAny (model Challenge.rw_ph0096_01.row.prog w) (callerA.deeper (envX (Str.ofString "law") sc LL fa cd [(Str.ofString "rule", LL + 1)])) (exec st (envX (Str.ofString "law") sc LL fa cd [(Str.ofString "rule", LL + 1)])) Q E s := by
  unfold stms at hst
  unfold scp at hsc
  conv at hst => lhs; whnf
  conv at hsc => lhs; whnf
  obtain rfl := Option.some.inj hst
  subst hsc
  clear hst
  obtain ⟨h, gs', dr, tk, os⟩ := s
  have hall : ds.take ds.length = ds := List.take_length ..
  have hrsff := hSt.ff
  obtain ⟨l1, l2, l3, l4, l5⟩ := hSt.lens hdn.2 hrl (Nat.le_refl _)
  have d1 : LL + 1 ≠ an := Nat.ne_of_lt nCan
  have d2 : LL + 1 ≠ ar := Nat.ne_of_lt (Nat.lt_trans nCan o12)
  have d3 : LL + 1 ≠ tb := Nat.ne_of_lt (Nat.lt_trans (Nat.lt_trans nCan o12) o23)
  have d4 : LL + 1 ≠ au := Nat.ne_of_lt (Nat.lt_trans (Nat.lt_trans (Nat.lt_trans nCan o12) o23) o34)
  have N4 : News gh LL h ((da, PySem.W.listOf dv.toArray 0) :: (LL + 1, oc') :: (Dk, PySem.W.listOf ks.toArray ck) :: (an, PySem.W.listOf nv.toArray n1) :: (ar, PySem.W.listOf rv.toArray n2) :: (tb, PySem.W.listOf tv.toArray n3) :: (au, PySem.W.listOf uv.toArray n4) :: (16, tabObj ps) :: R) := fun p hp => N3 p (by
    rcases List.mem_cons.mp hp with rfl | hp
    · exact .tail _ (.tail _ (.tail _ (.tail _ (.tail _ (.tail _ (.tail _ (hdaR)))))))
    · exact hp)
  clear N3
  refine wpAny_For ?_
  walk_at "m.go"
  (rename Fr _ _ _ _ => F5); (rename News _ _ _ _ => N5)
  rename IsRange _ _ _ _ _ _ _ _ => hRg
  refine' wpAny_pyIter_range ?hr ?hs ?_
  case hr => exact hRg
  case hs => exact small_one (by decide) (by decide) (by omega) (by omega)
  have N6 : News gh LL _ ((LL + 1, oc') :: (Dk, PySem.W.listOf ks.toArray ck) :: (an, PySem.W.listOf nv.toArray n1) :: (ar, PySem.W.listOf rv.toArray n2) :: (tb, PySem.W.listOf tv.toArray n3) :: (au, PySem.W.listOf uv.toArray n4) :: (16, tabObj ps) :: R) := fun p hp => N5 p (.tail _ hp)
  have F7 := F5.push { cls := .type "range_iterator", data := .fields #[rawInt 0, rawInt (Builtin.Range.rangeSize 0 ((ds.length : Nat) : Int) 1), rawInt 1] }
  have N7 := News.push F5 N6 { cls := .type "range_iterator", data := .fields #[rawInt 0, rawInt (Builtin.Range.rangeSize 0 ((ds.length : Nat) : Int) 1), rawInt 1] }
  have hI4 := fun p hp => Nat.ne_of_lt (Heap.lt_size (N6 p hp).1)
  obtain ⟨I4, eI⟩ := fr_size F5
  simp only [← eI] at N7 hI4 ⊢
  clear eI N5 F5 N6 hRg
  have hI4' : ∀ (oc2 : Obj) (ps' : Array Value), ∀ p ∈ (LL + 1, oc2) :: (Dk, PySem.W.listOf ks.toArray ck) :: (an, PySem.W.listOf nv.toArray n1) :: (ar, PySem.W.listOf rv.toArray n2) :: (tb, PySem.W.listOf tv.toArray n3) :: (au, PySem.W.listOf uv.toArray n4) :: (16, tabObj ps') :: R, p.1 ≠ I4 := fun oc2 ps' p hp => by
    simp only [List.mem_cons] at hp
    rcases hp with rfl | rfl | rfl | rfl | rfl | rfl | rfl | hp
    · have q := hI4 _ (List.Mem.head _); exact q
    · have q := hI4 _ (List.Mem.tail _ (List.Mem.head _)); exact q
    · have q := hI4 _ (List.Mem.tail _ (List.Mem.tail _ (List.Mem.head _))); exact q
    · have q := hI4 _ (List.Mem.tail _ (List.Mem.tail _ (List.Mem.tail _ (List.Mem.head _)))); exact q
    · have q := hI4 _ (List.Mem.tail _ (List.Mem.tail _ (List.Mem.tail _ (List.Mem.tail _ (List.Mem.head _))))); exact q
    · have q := hI4 _ (List.Mem.tail _ (List.Mem.tail _ (List.Mem.tail _ (List.Mem.tail _ (List.Mem.tail _ (List.Mem.head _)))))); exact q
    · have q := hI4 _ (List.Mem.tail _ (List.Mem.tail _ (List.Mem.tail _ (List.Mem.tail _ (List.Mem.tail _ (List.Mem.tail _ (List.Mem.head _))))))); exact q
    · exact hI4 p (.tail _ (.tail _ (.tail _ (.tail _ (.tail _ (.tail _ (.tail _ (hp))))))))
  have hneC' : ∀ ps' : Array Value, ∀ p ∈ (Dk, PySem.W.listOf ks.toArray ck) :: (an, PySem.W.listOf nv.toArray n1) :: (ar, PySem.W.listOf rv.toArray n2) :: (tb, PySem.W.listOf tv.toArray n3) :: (au, PySem.W.listOf uv.toArray n4) :: (16, tabObj ps') :: R, p.1 ≠ LL + 1 := fun ps' p hp => by
    simp only [List.mem_cons] at hp
    rcases hp with rfl | rfl | rfl | rfl | rfl | rfl | hp
    · exact d5.symm
    · exact d1.symm
    · exact d2.symm
    · exact d3.symm
    · exact d4.symm
    · exact Nat.ne_of_lt l16L
    · exact nRC p hp
  refine For_led1 (nm := _) (n := ds.length) (Ob := fun i o => o = RObj 0 i ds.length) (P := fun i v => ∃ t, v = .int (i : Int) t)
    (fun i m' nw gs' => ∃ ps' oc2 cv2, nw = (LL + 1, oc2) :: (Dk, PySem.W.listOf ks.toArray ck) :: (an, PySem.W.listOf nv.toArray n1) :: (ar, PySem.W.listOf rv.toArray n2) :: (tb, PySem.W.listOf tv.toArray n3) :: (au, PySem.W.listOf uv.toArray n4) :: (16, tabObj ps') :: R ∧ oc2.data = .cell cv2 ∧ TriplesOk ps'.toList ∧ AllBare gs' ∧ m' "draws" = some (.ref da) ∧ m' "machines" = some (.ref D) ∧ m' "names" = some (.ref an) ∧ m' "row" = some (.ref ar) ∧ m' "table" = some (.ref tb) ∧ m' "rules" = some (.ref au))
    ?_ F7 N7 ?_ ⟨ps, oc', cv, rfl, hcell, htr, hgs, k1, k2, k3, k4, k5, k6⟩ ?_ ?_ ?_ ?_
  · rintro i m' nw' gs' ⟨ps', oc2, cv2, rfl, _⟩ p hp
    exact hI4' oc2 ps' p hp
  · unfold RObj
    rw [rangeSize_one, if_pos (by omega)]
    have e : ((ds.length : Nat) : Int) - ((0 : Nat) : Int) = ((ds.length : Nat) : Int) - 0 := by omega
    rw [e]
    rfl
  · intro i m' nw' gs' h tk o Q' E' hi _ _ N ho q
    exact range_step hi N ho q
  · intro m' nw' gs' h tk o Q' E' _ _ N ho q
    exact range_stop rfl N ho q
  · rintro i v m' nw' gs' h tk o hi ⟨tv', rfl⟩ ⟨ps', oc2, cv2, rfl, hcell2, htr2, hgs2, k1, k2, k3, k4, k5, k6⟩ F3 N3 ho htk3 htk4
    clear F7 N7
    obtain ⟨x, hx⟩ : ∃ x, ds[i]? = some x := ⟨_, List.getElem?_eq_getElem hi⟩
    obtain ⟨mt, fa', fi', fv, gv, nf, ng, tn, e1, e2, e3, e4, e5, e6⟩ := hmsR.get i x hx
    refine wpAny_execs_cons ?_
    refine wpAny_with_toks (n := 1) htk4 ?_
    walk_at "m.gof"
    (rename 1 ≤ _ => htk8)
    (rename Fr _ _ _ _ => F5); (rename News _ _ _ _ => N5)
    obtain ⟨lg, e⟩ := fr_ref F5 "longest" rfl
    subst e
    have hlg := (by assumption : I4 < lg ∧ LL + 1 < lg ∧ _).2.1
    have N6 : News gh LL _ ((LL + 1, oc2) :: (lg, PySem.W.listOf ([] : List Value).toArray 0) :: (I4, o) :: (Dk, PySem.W.listOf ks.toArray ck) :: (an, PySem.W.listOf nv.toArray n1) :: (ar, PySem.W.listOf rv.toArray n2) :: (tb, PySem.W.listOf tv.toArray n3) :: (au, PySem.W.listOf uv.toArray n4) :: (16, tabObj ps') :: R) := fun p hp => N5 p (by
      rcases List.mem_cons.mp hp with rfl | hp
      · exact .tail _ (.tail _ (.head _))
      · rcases List.mem_cons.mp hp with rfl | hp
        · exact .head _
        · rcases List.mem_cons.mp hp with rfl | hp
          · exact .tail _ (.head _)
          · exact .tail _ (.tail _ (.tail _ hp)))
    clear N5
    refine wpAny_execs_cons ?_
    refine wpAny_For ?_
    refine wpAny_with_toks (n := 1) (by first | exact htk8 | exact Nat.le_succ_of_le htk8 | exact Nat.le_add_left 1 _) ?_
    walk_at "m.go"
    (rename 1 ≤ _ => htk9)
    have N7 := News.push F5 N6 { cls := .type "list_iterator", data := .fields #[.ref au, .int 0 0] }
    have F7 := F5.push { cls := .type "list_iterator", data := .fields #[.ref au, .int 0 0] }
    refine wpAny_pyIter_list (isL (vs := uv) N6 (.tail _ (.tail _ (.tail _ (.tail _ (.tail _ (.tail _ (.tail _ (.head _))))))))) ?_
    have hJ5 := fun p hp => Nat.ne_of_lt (Heap.lt_size (N6 p hp).1)
    obtain ⟨I5, eI5⟩ := fr_size F5
    simp only [← eI5] at N7 hJ5 ⊢
    clear eI5 N6 F5
    have hneI : ∀ p ∈ (lg, PySem.W.listOf ([] : List Value).toArray 0) :: (I4, o) :: (Dk, PySem.W.listOf ks.toArray ck) :: (an, PySem.W.listOf nv.toArray n1) :: (ar, PySem.W.listOf rv.toArray n2) :: (tb, PySem.W.listOf tv.toArray n3) :: (au, PySem.W.listOf uv.toArray n4) :: (16, tabObj ps') :: R, p.1 ≠ LL + 1 := fun p hp => by
      rcases List.mem_cons.mp hp with rfl | hp
      · exact Nat.ne_of_gt hlg
      · rcases List.mem_cons.mp hp with rfl | hp
        · exact fun q => hI4' oc2 ps' _ (.head _) q.symm
        · exact hneC' ps' p hp
    have em : ∀ y : Str, y = Str.ofString "k" → True := fun _ _ => trivial
    refine For_ledC (nm := _) (c := LL + 1) (n := uv.length) (Ob := LOb au) (P := fun i v => uv[i]? = some v)
      (fun j m'' nw gs'' => nw = (lg, PySem.W.listOf ([] : List Value).toArray 0) :: (I4, o) :: (Dk, PySem.W.listOf ks.toArray ck) :: (an, PySem.W.listOf nv.toArray n1) :: (ar, PySem.W.listOf rv.toArray n2) :: (tb, PySem.W.listOf tv.toArray n3) :: (au, PySem.W.listOf uv.toArray n4) :: (16, tabObj ps') :: R ∧ gs'' = gs' ∧ (∃ cur la lw ln, m'' "longest" = some (.ref la) ∧ (la, PySem.W.listOf lw.toArray ln) ∈ (lg, PySem.W.listOf ([] : List Value).toArray 0) :: R ∧ StrsAre lw cur ∧ Near (rs.take j) (fieldsOf x) cur) ∧ m'' "draws" = some (.ref da) ∧ m'' "machines" = some (.ref D) ∧ m'' "names" = some (.ref an) ∧ m'' "row" = some (.ref ar) ∧ m'' "table" = some (.ref tb) ∧ m'' "rules" = some (.ref au) ∧ m'' "k" = some (.int (i : Int) tv'))
      ?_ (hJ5 _ (.head _)) (by rfl) F7 N7 hcell2 ⟨rfl, rfl⟩ ⟨rfl, rfl, ⟨[], lg, [], 0, rfl, .head _, .nil, .inr ⟨rfl, fun r hr => by simp at hr⟩⟩, k1, k2, k3, k4, k5, k6, rfl⟩ ?_ ?_ ?_ ?_
    · rintro j m'' nw' gs'' ⟨rfl, _⟩ p hp
      exact ⟨hJ5 p (.tail _ hp), hneI p hp⟩
    · rintro j m'' nw' gs'' h2 tk2 o2 Q' E' hj ⟨rfl, _⟩ F6 N6 ho2 q
      exact list_step (List.getElem?_eq_getElem hj) (isL N6 (.tail _ (.tail _ (.tail _ (.tail _ (.tail _ (.tail _ (.tail _ (.head _))))))))) N6 ho2 q
    · rintro m'' nw' gs'' h2 tk2 o2 Q' E' ⟨rfl, _⟩ F6 N6 ho2 q
      exact list_stop rfl (isL N6 (.tail _ (.tail _ (.tail _ (.tail _ (.tail _ (.tail _ (.tail _ (.head _))))))))) N6 ho2 q
    · rintro j v m'' nw' gs'' h2 tk2 o2 oc3 hj hv ⟨rfl, rfl, ⟨cur, la, lw, ln, c1, c2, c3, c4⟩, b1, b2, b3, b4, b5, b6, b7⟩ F6 N6 hcell3 ho2 htk5
      clear F7 N7
      obtain ⟨r, hr⟩ : ∃ r, rs[j]? = some r := ⟨_, List.getElem?_eq_getElem (by omega)⟩
      obtain ⟨ra, ws, qn, g1, g2, g3⟩ := hSt.rul.get j r hr
      have hrf := hrsff r (List.mem_of_getElem? hr)
      have hwl := StrsAre.length g3
      have hr8 := hrf.2.2
      rw [g1] at hv
      obtain rfl := Option.some.inj hv
      walk_at "m.go"
      refine PyProof.Rows.len_list (isL (vs := ws) N6 (.tail _ (.tail _ (.tail _ (.tail _ (.tail _ (.tail _ (.tail _ (.tail _ (.tail _ (.tail _ (g2)))))))))))) (by rw [List.size_toArray]; omega) ?_
      walk_at "m.go"
      have hcl : cur.length ≤ 8 := by
        rcases c4 with ⟨q, _⟩ | ⟨q, _⟩
        · exact (hrsff cur (List.mem_of_mem_take q)).2.2
        · rw [q]; exact Nat.zero_le _
      have hll := StrsAre.length c3
      have hlm : (la, PySem.W.listOf lw.toArray ln) ∈ (I5, o2) :: (LL + 1, oc3) :: (lg, PySem.W.listOf ([] : List Value).toArray 0) :: (I4, o) :: (Dk, PySem.W.listOf ks.toArray ck) :: (an, PySem.W.listOf nv.toArray n1) :: (ar, PySem.W.listOf rv.toArray n2) :: (tb, PySem.W.listOf tv.toArray n3) :: (au, PySem.W.listOf uv.toArray n4) :: (16, tabObj ps') :: R := by
        rcases List.mem_cons.mp c2 with q | q
        · rw [q]; exact .tail _ (.tail _ (.head _))
        · exact .tail _ (.tail _ (.tail _ (.tail _ (.tail _ (.tail _ (.tail _ (.tail _ (.tail _ (.tail _ (q))))))))))
      refine PyProof.Rows.len_list (isL (vs := lw) N6 hlm) (by rw [List.size_toArray]; omega) ?_
      have s1 : ws.toArray.size = ws.length := List.size_toArray ..
      have s2 : lw.toArray.size = lw.length := List.size_toArray ..
      rw [s1, s2]
      have hnt := near_turn c4 hrf.2.1
      have htk7 : rs.take (j + 1) = rs.take j ++ [r] := by rw [List.take_add_one, hr]; rfl
      rw [← htk7] at hnt
      walk_at "m.go"
      · have hgt : r.length > cur.length := by omega
        refine item_litK (isL (vs := ys) (by k_asm) (.tail _ (.tail _ (.tail _ (.tail _ (.tail _ (.tail _ (.tail _ (.tail _ (.tail _ (.tail _ (hDR)))))))))))) (v := .ref mt) (by omega) (by omega) (by rw [Int.toNat_natCast]; exact e1) ?_
        walk_at "m.go"
        refine tup_item (vs := [.ref fa', .ref fi']) (isT (by k_asm) (.tail _ (.tail _ (.tail _ (.tail _ (.tail _ (.tail _ (.tail _ (.tail _ (.tail _ (.tail _ (e2)))))))))))) (by decide) (by decide) rfl ?_
        walk_at "m.go"
        (rename Fr _ _ _ _ => F8); (rename News _ _ _ _ => N8)
        have hgl2 := StrsAre.length e6
        have hfl8 := fields_len x
        refine begins_spec w (f := fi') (r := ra) (fs := fieldsOf x) (rs := r) (fv := gv) (rv := ws) (nf := ng) (nr := qn) (by k_asm) F8 (by k_asm) N8 (by k_asm) rfl (.tail _ (.tail _ (.tail _ (.tail _ (.tail _ (.tail _ (.tail _ (.tail _ (.tail _ (.tail _ (e4))))))))))) e6 (.tail _ (.tail _ (.tail _ (.tail _ (.tail _ (.tail _ (.tail _ (.tail _ (.tail _ (.tail _ (g2))))))))))) g3 (okS_ff (fields_ff x)) (okS_ff hrf.1) (by omega) (by omega) (by ktr_room) (by ktr_units) ?_
        intro h9 tk9 F9 N9
        dsimp only
        by_cases hb : (fieldsOf x).take r.length = r
        · rw [decide_eq_true hb]
          rw [if_pos ⟨hgt, hb⟩] at hnt
          walk_at "m.go"
          (rename Fr _ _ _ _ => FE); (rename News _ _ _ _ => NE)
          intro _
          exact ⟨_, (lg, PySem.W.listOf ([] : List Value).toArray 0) :: (I4, o) :: (Dk, PySem.W.listOf ks.toArray ck) :: (an, PySem.W.listOf nv.toArray n1) :: (ar, PySem.W.listOf rv.toArray n2) :: (tb, PySem.W.listOf tv.toArray n3) :: (au, PySem.W.listOf uv.toArray n4) :: (16, tabObj ps') :: R, gs'', _, _, o2, oc3, _, rfl, FE, NE, hcell3, ho2, rfl, rfl, ⟨r, ra, ws, qn, rfl, .tail _ g2, g3, hnt⟩, b1, b2, b3, b4, b5, b6, b7⟩
        · rw [decide_eq_false hb]
          rw [if_neg (fun q => hb q.2)] at hnt
          walk_at "m.go"
          (rename Fr _ _ _ _ => FE); (rename News _ _ _ _ => NE)
          intro _
          exact ⟨_, (lg, PySem.W.listOf ([] : List Value).toArray 0) :: (I4, o) :: (Dk, PySem.W.listOf ks.toArray ck) :: (an, PySem.W.listOf nv.toArray n1) :: (ar, PySem.W.listOf rv.toArray n2) :: (tb, PySem.W.listOf tv.toArray n3) :: (au, PySem.W.listOf uv.toArray n4) :: (16, tabObj ps') :: R, gs'', _, _, o2, oc3, _, rfl, FE, NE, hcell3, ho2, rfl, rfl, ⟨cur, la, lw, ln, c1, c2, c3, hnt⟩, b1, b2, b3, b4, b5, b6, b7⟩
      · have hgt : ¬ r.length > cur.length := by omega
        rw [if_neg (fun q => hgt q.1)] at hnt
        (rename Fr _ _ _ _ => FE); (rename News _ _ _ _ => NE)
        intro _
        exact ⟨_, (lg, PySem.W.listOf ([] : List Value).toArray 0) :: (I4, o) :: (Dk, PySem.W.listOf ks.toArray ck) :: (an, PySem.W.listOf nv.toArray n1) :: (ar, PySem.W.listOf rv.toArray n2) :: (tb, PySem.W.listOf tv.toArray n3) :: (au, PySem.W.listOf uv.toArray n4) :: (16, tabObj ps') :: R, gs'', _, _, o2, oc3, _, rfl, FE, NE, hcell3, ho2, rfl, rfl, ⟨cur, la, lw, ln, c1, c2, c3, hnt⟩, b1, b2, b3, b4, b5, b6, b7⟩
    · rintro m'' nw' gs'' h2 tk2 oc3 cv3 ⟨rfl, rfl, ⟨cur, la, lw, ln, c1, c2, c3, c4⟩, b1, b2, b3, b4, b5, b6, b7⟩ F6 N6 hcell3 htk5
      walk_at "m.go"
      (rename Fr _ _ _ _ => F8); (rename News _ _ _ _ => N8)
      have htk6 : 1 ≤ tk2 := Nat.le_trans (by first | exact htk9 | exact Nat.le_add_left 1 _ | assumption) htk5
      obtain ⟨t9, hn9⟩ := StrsAre.get hSt.names i (nm x) (by rw [hall, List.getElem?_map, hx]; rfl)
      refine item_litK (isL (vs := nv) N8 (.tail _ (.tail _ (.tail _ (.tail _ (.head _)))))) (v := .str (nm x) t9) (by omega) (by omega) (by rw [Int.toNat_natCast]; exact hn9) ?_
      walk_at "m.go"
      (rename Fr _ _ _ _ => F8); (rename News _ _ _ _ => N8)
      have hTab : Tab tab rs := ⟨hSt.tabS, fun t => by
        rw [hSt.tabP.mem_iff, List.mem_map]
        exact ⟨fun ⟨r, a, e⟩ => ⟨r, a, e.symm⟩, fun ⟨r, a, e⟩ => ⟨r, a, e.symm⟩⟩, fun r hr => ⟨(hrsff r hr).1, (hrsff r hr).2.1⟩, fun r hr => by have := (hrsff r hr).2.2; omega⟩
      refine nearest_spec w (tb := tb) (tv := tv) (tn := n3) (ts := tab) (rs := rs) (fs := fieldsOf x) (ps := ps') (by k_asm) F8 (by k_asm) (fun p hp => N8 p (by
        rcases List.mem_cons.mp hp with rfl | hp
        · exact .tail _ (.tail _ (.tail _ (.tail _ (.tail _ (.tail _ (.tail _ (.tail _ (.head _))))))))
        · rcases List.mem_cons.mp hp with rfl | hp
          · exact .head _
          · rcases List.mem_cons.mp hp with rfl | hp
            · exact .tail _ (.head _)
            · rcases List.mem_cons.mp hp with rfl | hp
              · exact .tail _ (.tail _ (.head _))
              · rcases List.mem_cons.mp hp with rfl | hp
                · exact .tail _ (.tail _ (.tail _ (.head _)))
                · rcases List.mem_cons.mp hp with rfl | hp
                  · exact .tail _ (.tail _ (.tail _ (.tail _ (.head _))))
                  · rcases List.mem_cons.mp hp with rfl | hp
                    · exact .tail _ (.tail _ (.tail _ (.tail _ (.tail _ (.head _)))))
                    · rcases List.mem_cons.mp hp with rfl | hp
                      · exact .tail _ (.tail _ (.tail _ (.tail _ (.tail _ (.tail _ (.head _))))))
                      · rcases List.mem_cons.mp hp with rfl | hp
                        · exact .tail _ (.tail _ (.tail _ (.tail _ (.tail _ (.tail _ (.tail _ (.head _)))))))
                        · exact .tail _ (.tail _ (.tail _ (.tail _ (.tail _ (.tail _ (.tail _ (.tail _ (.tail _ (hp))))))))))) (by k_asm) rfl hC htr2 ?hne16 hgs2 (by first | assumption | exact Nat.le_succ_of_le (by assumption) | exact Nat.le_add_left 1 _ | (repeat (first | assumption | apply Nat.le_succ_of_le))) (.tail _ (.tail _ (.tail _ (.tail _ (.tail _ (.tail _ (.head _))))))) hSt.tabA hTab (by omega) (fields_ff x) (by have := fields_len x; omega) (by ktr_room) (by ktr_units) ?_
      case hne16 =>
        intro p hp
        simp only [List.mem_cons] at hp
        rcases hp with rfl | rfl | rfl | rfl | rfl | rfl | rfl | rfl | hp
        · exact Nat.ne_of_gt l16L
        · exact Nat.ne_of_gt (Nat.lt_trans l16L hlg)
        · exact fun q => hI4' oc2 ps' _ (.tail _ (.tail _ (.tail _ (.tail _ (.tail _ (.tail _ (.head _))))))) q.symm
        · exact Nat.ne_of_gt (h16k)
        · exact Nat.ne_of_gt n16an
        · exact Nat.ne_of_gt (Nat.lt_trans n16an o12)
        · exact Nat.ne_of_gt (Nat.lt_trans (Nat.lt_trans n16an o12) o23)
        · exact Nat.ne_of_gt (Nat.lt_trans (Nat.lt_trans (Nat.lt_trans n16an o12) o23) o34)
        · exact nR16 p hp
      intro t10 res ps2 h10 tk10 gs10 hnear htr3 hgs3 F10 N10
      dsimp only
      rw [l4, List.take_length] at c4
      have hrc : res = cur := near_unique hnear c4
      subst hrc
      clear N8 F8
      walk_at "m.go"
      have hlm : (la, PySem.W.listOf lw.toArray ln) ∈ (16, tabObj ps2) :: (LL + 1, oc3) :: (lg, PySem.W.listOf ([] : List Value).toArray 0) :: (I4, o) :: (Dk, PySem.W.listOf ks.toArray ck) :: (an, PySem.W.listOf nv.toArray n1) :: (ar, PySem.W.listOf rv.toArray n2) :: (tb, PySem.W.listOf tv.toArray n3) :: (au, PySem.W.listOf uv.toArray n4) :: R := by
        rcases List.mem_cons.mp c2 with q | q
        · rw [q]; exact .tail _ (.tail _ (.head _))
        · exact .tail _ (.tail _ (.tail _ (.tail _ (.tail _ (.tail _ (.tail _ (.tail _ (.tail _ (q)))))))))
      have hrf2 : FF res ∧ res.length ≤ 8 := by
        rcases c4 with ⟨q, _⟩ | ⟨q, _⟩
        · exact ⟨(hrsff res q).1, (hrsff res q).2.2⟩
        · subst q; exact ⟨(fun _ h => nomatch h), Nat.zero_le _⟩
      refine join_led (isL (vs := lw) (by k_asm) hlm) c3 (joinOk_ff hrf2.1 (by omega)) fun t12 tk12 => ?_
      dsimp only
      walk_at "m.go"
      all_goals first
        | (exfalso
           have hne : (J res != Txt.join (Str.ofString "-") res) = true := by assumption
           simp at hne
           done)
        | skip
      (rename Fr _ _ _ _ => FE); (rename News _ _ _ _ => NE)
      intro _
      exact ⟨_, (LL + 1, oc3) :: (Dk, PySem.W.listOf ks.toArray ck) :: (an, PySem.W.listOf nv.toArray n1) :: (ar, PySem.W.listOf rv.toArray n2) :: (tb, PySem.W.listOf tv.toArray n3) :: (au, PySem.W.listOf uv.toArray n4) :: (16, tabObj ps2) :: R, gs10, _, _, o, rfl, FE, fun p hp => NE p (by
        rcases List.mem_cons.mp hp with rfl | hp
        · exact .tail _ (.tail _ (.tail _ (.head _)))
        · rcases List.mem_cons.mp hp with rfl | hp
          · exact .tail _ (.head _)
          · rcases List.mem_cons.mp hp with rfl | hp
            · exact .tail _ (.tail _ (.tail _ (.tail _ (.head _))))
            · rcases List.mem_cons.mp hp with rfl | hp
              · exact .tail _ (.tail _ (.tail _ (.tail _ (.tail _ (.head _)))))
              · rcases List.mem_cons.mp hp with rfl | hp
                · exact .tail _ (.tail _ (.tail _ (.tail _ (.tail _ (.tail _ (.head _))))))
                · rcases List.mem_cons.mp hp with rfl | hp
                  · exact .tail _ (.tail _ (.tail _ (.tail _ (.tail _ (.tail _ (.tail _ (.head _)))))))
                  · rcases List.mem_cons.mp hp with rfl | hp
                    · exact .tail _ (.tail _ (.tail _ (.tail _ (.tail _ (.tail _ (.tail _ (.tail _ (.head _))))))))
                    · rcases List.mem_cons.mp hp with rfl | hp
                      · exact .head _
                      · exact .tail _ (.tail _ (.tail _ (.tail _ (.tail _ (.tail _ (.tail _ (.tail _ (.tail _ (hp)))))))))), ho, ps2, oc3, cv3, rfl, hcell3, htr3, hgs3, b1, b2, b3, b4, b5, b6⟩
  · rintro m' nw' gs' h tk ⟨ps', oc2, cv2, rfl, hcell2, htr2, hgs2, k1, k2, k3, k4, k5, k6⟩ F3 N3 htk3
    exact done _ _ _ _ _ _ F3 hgs2 htr2 N3
end Mine
end

section
open PySem PySem.W PyProof.Rows PySem.Calls PySem.Spec
set_option maxHeartbeats 8000000
namespace Mine
open LCg LCt
local macro_rules | `(tactic| walk_at "eval Name") => `(tactic| (k_here; (fail_if_success (with_reducible show wpAny _ _ (eval (Expr.Name _ _) (compEnvC _ _ _ _)) _ _ _)); k_dflt (refine' nameX_L ?F ?v ?_ ?a ?b; (case F => k_asm); (case a => rfl); (case b => rfl); (case v => assumption); k_whole)))
local macro_rules | `(tactic| walk_at "loadName") => `(tactic| (k_here; k_dflt (refine' PyProof.Rows.ldn ?F ?v ?_ ?a ?b; (case F => k_asm); (case a => rfl); (case b => rfl); (case v => assumption); k_whole)))
local macro_rules | `(tactic| walk_at "m.no") => `(tactic| (
  (fail_if_success (with_reducible show wpAny _ _ (exec (Stmt.While _ _ _ _) _) _ _ _)); (fail_if_success (with_reducible show wpAny _ _ (exec (Stmt.For _ _ _ _ _) _) _ _ _))
  (fail_if_success (with_reducible show wpAny _ _ (call (Value.ref _) _ _) _ _ _)); (fail_if_success (with_reducible show wpAny _ _ (eval (Expr.ListComp _ _ _ _) _) _ _ _))
  (fail_if_success (with_reducible show wpAny _ _ (eval (Expr.GeneratorExp _ _ _ _) _) _ _ _)); (fail_if_success (with_reducible show wpAny _ _ (exec (Stmt.Assign _ (Expr.ListComp _ _ _ _) _) _) _ _ _))
  (fail_if_success (with_reducible show wpAny _ _ (subscriptTail _ _ (Value.ref _) _) _ _ _)); (fail_if_success (with_reducible show wpAny _ _ (compareOp _ (Value.ref _) (Value.ref _)) _ _ _))
  (fail_if_success (with_reducible show wpAny _ _ (call (Value.builtin "str.split") _ _) _ _ _)); (fail_if_success (with_reducible show wpAny _ _ (call (Value.builtin "str.join") _ _) _ _ _)); (fail_if_success (with_reducible show wpAny _ _ (call (Value.builtin "sorted") _ _) _ _ _)); (fail_if_success (with_reducible show wpAny _ _ (call (Value.type "filter") _ _) _ _ _))))
local macro_rules | `(tactic| walk_at "m.go") => `(tactic| repeat' ((walk_at "m.no"); (first | (k_unfold; (try dsimp only)) | walk1 | dsimp only)))
local macro_rules | `(tactic| walk_at "m.enter") => `(tactic| (
  (case kA => exact rfl); (case kF => exact rfl); (case kK => assumption)
  (case k1 => k_asm); (case k2 => k_asm); (case k3 => k_asm); (case k4 => k_asm); (case k5 => k_asm)
  (case k6 => k_is); (case k7 => k_is); (case k8 => ktr_room)
  (case c5 => decide); (case kB => exact locs rfl); (case c2 => exact rfl); (case c3 => exact rfl); (case c4 => exact rfl)))
local macro_rules | `(tactic| walk_at "m.not") => `(tactic| ((walk_at "m.noc"); (fail_if_success (with_reducible show LCt.CompSrcT _ _ _ _ _ _ _ _ _ _ _ _ _ _ _))))
local macro_rules | `(tactic| walk_at "m.got") => `(tactic| repeat' ((walk_at "m.not"); (first | (k_unfold; (try dsimp only)) | walk1 | dsimp only)))
local macro_rules | `(tactic| walk_at "m.nop") => `(tactic| ((walk_at "m.noc"); (fail_if_success (with_reducible show LCp.SrcLP _ _ _ _ _ _ _ _ _ _ _ _ _ _ _))))
local macro_rules | `(tactic| walk_at "m.gop") => `(tactic| repeat' ((walk_at "m.nop"); (first | (k_unfold; (try dsimp only)) | walk1 | dsimp only)))
local macro_rules | `(tactic| walk_at "m.noc") => `(tactic| ((walk_at "m.no"); (fail_if_success (with_reducible show CompSrc _ _ _ _ _ _ _ _ _ _ _ _ _ _)); (fail_if_success (with_reducible show CompEnd _ _ _ _ _ _ _ _ _ _ _ _ _ _))))
local macro_rules | `(tactic| walk_at "m.goc") => `(tactic| repeat' ((walk_at "m.noc"); (first | (k_unfold; (try dsimp only)) | walk1 | dsimp only)))
theorem main : PySem.Challenge.rw_ph0096_01.Holds := by
  refine Mine.hd ?_
  k_fill
  intro w s₀ s₁ mg mb G Y fa o pm cd doc dV kV ho hd hcd hD hmg hg args vals as hpre hlay hrd hwl hlo
  have KX := kIn_of Y
  have X := (Ground.X G).1
  have V := (Ground.X G).2
  refine Ground.open G ?_
  intro T B D TE TW
  have hT9 : TabsAt [(20, 16)] s₁.heap := tab16 T KX (rec_mem (by decide +kernel))
  clear hmg
  wrow_args hpre hlay hrd hwl hlo
  first | refine callC_kw (enter_call ?_) | refine enter_call ?_
  w_top on
  refine my_post hT9 (fun _ _ => rfl) ?hp ?_
  case hp => wrow_post
  w_call any ho hd hcd hD T F
  clear hd
  kn_ghosts F T
  (rename Heap.IsList _ _ _ => hSL); (rename IntsAre _ _ => hSI); (rename CodeHd _ _ _ => hC); (rename Below _ _ _ _ => BB); (rename Frag.In _ _ => XX); (rename Top _ _ _ _ _ _ => TT)
  (rename Obj.data _ = Data.cell _ => dR)
  change _ = Data.cell none at dR
  (rename Fr _ _ _ _ => FF0); (rename News _ _ _ _ => NN0)
  (rename 16 < _ => l16)
  change CodeHd _ 20 16 at hC
  change Fr _ _ _ (fun y => if y = "script" then _ else none) at FF0
  clear G Y V D TE TW hT9
  generalize ghostOf s₁.heap [(20, 16)] = gh at *
  generalize hLL : s₁.heap.objs.size = LL at *
  (rename ¬ _ < _ => hc63)
  (rename CellsAre _ _ _ => hX0)
  clear hX0
  (try dsimp only)
  (try k_fold)
  walk_at "m.go"
  (rename Fr _ _ _ _ => F1); (rename News _ _ _ _ => N1)
  have hsl := IntsAre.length hSI
  refine PyProof.Rows.slice_list (lo := none) (hi := some ((5 : Nat) : Int)) (by k_asm) (by k_asm) (listKeeps hSL F1.keep) .none (.int _ _) ?_ (hsz := by rw [List.size_toArray]; unfold sizeLine; omega)
  intro h2 F2 N2
  rw [slicePick_upto', List.toList_toArray] at N2
  dsimp only at F2 N2 ⊢
  walk_at "m.go"
  refine add_arrays F2 N2 (isL N2 (.tail _ (.head _))) (isL N2 (.head _)) ?_ (hsz := by rw [List.size_toArray, List.size_toArray, List.length_take]; unfold sizeLine; simp only [List.length_cons, List.length_nil]; omega)
  intro h3 F3 N3
  dsimp only at F3 N3 ⊢
  have N4 := news_draws N3 (.cons _ _ (.cons _ _ (.cons _ _ (.cons _ _ (.cons _ _ (.cons _ _ .nil)))))) (ints_take hSI 5)
  clear N3 N2 N1 F1 F2
  obtain ⟨dv, ds, hds, hdv, N4⟩ := N4
  have hdl := IntsAre.length hdv
  have hdn : 6 ≤ ds.length ∧ ds.length ≤ 11 := by
    rw [hds, List.length_append, List.length_take]
    simp only [List.length_cons, List.length_nil]
    omega
  generalize h2.objs.size = da at *
  walk_at "m.go"
  refine LCg.Assign_ListComp_U (F₀ := by k_asm) (by rfl) (by with_unfolding_all rfl) (by rfl) (by decide) (by rfl) (by decide) (by rfl) (by rfl) (by rfl) ?_
  walk_at "m.goc"
  (rename Fr _ _ _ _ => F5); (rename News _ _ _ _ => N5)
  refine CompSrc.ledger rfl F5 N5 (.head _) (by rw [List.size_toArray]; unfold sizeLine; omega) fun g => ?_
  rw [List.size_toArray]
  refine CompRest_inv (n := dv.length) (fun i ys nw => (∀ p ∈ [(da, PySem.W.listOf dv.toArray 0), (LL + 1, _), (16, tabObj #[])], p ∈ nw) ∧ MsAre nw ys (ds.take i) ∧ True) ?_ ?_ dv.length 0 [] _ (Nat.zero_add _) ⟨fun p hp => hp, .nil, trivial⟩
  · rintro i ys nw hi ⟨hsub, hms, hyl⟩ v I oI C oC D m₂ h tk E' hv hC' hx' F' N' off' ne'
    obtain ⟨t5, e5⟩ := ints_at hdv i (by omega)
    have hv2 : v = .int (ds.getD i 0) t5 := by
      rw [List.getElem?_toArray, e5] at hv
      exact (Option.some.inj hv).symm
    subst hv2
    have etk : ds.take (i + 1) = ds.take i ++ [ds.getD i 0] := by
      rw [List.take_add_one, List.getElem?_eq_getElem (by omega)]
      simp [List.getD, show i < ds.length by omega]
    walk_at "m.goc"
    refine machine_spec w (by k_asm) (by k_asm) (by k_asm) (by k_asm) (by k_asm) rfl (by ktr_room) (by ktr_units) ?_
    intro t h6 tk6 fa' fi' fv gv nf ng tn hfv hgv q3 q4 q5 F6 N6
    refine CompEnd.intro F6 N6 ((t, _) :: (fa', _) :: (fi', _) :: nw) sub_end ?_ (.inr ⟨_, .tail _ (.tail _ (.tail _ (hsub _ (.head _)))), rfl, _, rfl⟩) ⟨fun p hp => .tail _ (.tail _ (.tail _ (hsub p hp))), ?_, trivial⟩
    · exact off3_new off' q3 q4 q5
    · rw [etk]
      exact (hms.mono fun p hp => .tail _ (.tail _ (.tail _ hp))).append (.cons (.head _) (.tail _ (.head _)) (.tail _ (.tail _ (.head _))) hfv hgv .nil)
  · rintro ys nw ⟨hsub, hms, _⟩ D h tk F' N' off'
    rw [hdl, List.take_length] at hms
    have hyl := hms.length
    walk_at "m.goc"
    (rename Fr _ _ _ _ => F6); (rename News _ _ _ _ => N6)
    obtain ⟨an, e⟩ := fr_ref F6 "names" rfl
    subst e
    obtain ⟨ar, e⟩ := fr_ref F6 "row" rfl
    subst e
    obtain ⟨tb, e⟩ := fr_ref F6 "table" rfl
    subst e
    obtain ⟨au, e⟩ := fr_ref F6 "rules" rfl
    subst e
    have b1 := (by assumption : D < an ∧ AllLt an nw)
    have b2 := (by assumption : an < ar ∧ D < ar ∧ AllLt ar nw)
    have b3 := (by assumption : ar < tb ∧ an < tb ∧ D < tb ∧ AllLt tb nw)
    have b4 := (by assumption : tb < au ∧ ar < au ∧ an < au ∧ D < au ∧ AllLt au nw)
    have hm16 : (16, tabObj #[]) ∈ nw := hsub _ (.tail _ (.tail _ (.head _)))
    have hmC := hsub _ (.tail _ (.head _))
    have hmD := hsub _ (.head _)
    have N7 : News gh LL _ nw := fun p hp => N6 p (.tail _ (.tail _ (.tail _ (.tail _ (.tail _ (.tail _ hp))))))
    have hms2 := hms.keep N7 hm16 hmC dR
    have hmD2 := keep_mem N7 hm16 hmC dR hmD rfl
    have hkn := keep_ne (c := LL + 1) (nw := nw)
    have n16an : @LT.lt Nat _ 16 an := allLt_mem b1.2 _ hm16
    have nCan : @LT.lt Nat _ (LL + 1) an := allLt_mem b1.2 _ hmC
    have hDn := off1_mem off'
    obtain ⟨oc, e⟩ := obj_of hmC
    subst e
    obtain ⟨R, hR⟩ : ∃ R, R = (D, PySem.W.listOf ys.toArray ys.length) :: nw.filter (fun p => decide (p.1 ≠ 16 ∧ p.1 ≠ LL + 1)) := ⟨_, rfl⟩
    have hmsR : MsAre R ys ds := hR ▸ hms2.mono fun p hp => .tail _ hp
    have hdaR : (da, PySem.W.listOf dv.toArray 0) ∈ R := hR ▸ .tail _ hmD2
    have hDR : (D, PySem.W.listOf ys.toArray ys.length) ∈ R := hR ▸ .head _
    have hRn : ∀ p ∈ R, p.1 ≠ 16 ∧ p.1 ≠ LL + 1 ∧ p.1 < an := by
      subst hR
      intro p hp
      rcases List.mem_cons.mp hp with rfl | hp
      · exact ⟨fun q => hDn _ hm16 q.symm, fun q => hDn _ hmC q.symm, b1.1⟩
      · exact ⟨(hkn p hp).2.1, (hkn p hp).2.2, allLt_mem b1.2 p (hkn p hp).1⟩
    have nRan : ∀ p ∈ R, p.1 ≠ an := fun p hp => Nat.ne_of_lt (hRn p hp).2.2
    have nRar : ∀ p ∈ R, p.1 ≠ ar := fun p hp => Nat.ne_of_lt (Nat.lt_trans (hRn p hp).2.2 b2.1)
    have nRtb : ∀ p ∈ R, p.1 ≠ tb := fun p hp => Nat.ne_of_lt (Nat.lt_trans (Nat.lt_trans (hRn p hp).2.2 b2.1) b3.1)
    have nRau : ∀ p ∈ R, p.1 ≠ au := fun p hp => Nat.ne_of_lt (Nat.lt_trans (Nat.lt_trans (Nat.lt_trans (hRn p hp).2.2 b2.1) b3.1) b4.1)
    have nR16 : ∀ p ∈ R, p.1 ≠ 16 := fun p hp => (hRn p hp).1
    have nRC : ∀ p ∈ R, p.1 ≠ LL + 1 := fun p hp => (hRn p hp).2.1
    have o12 : @LT.lt Nat _ an ar := b2.1
    have o23 : @LT.lt Nat _ ar tb := b3.1
    have o34 : @LT.lt Nat _ tb au := b4.1
    have l16L : @LT.lt Nat _ 16 (LL + 1) := Nat.lt_succ_of_lt l16
    have N8 : News gh LL _ ((da, PySem.W.listOf dv.toArray 0) :: (an, PySem.W.listOf ([] : List Value).toArray 0) :: (ar, PySem.W.listOf ([] : List Value).toArray 0) :: (tb, PySem.W.listOf ([] : List Value).toArray 0) :: (au, PySem.W.listOf ([] : List Value).toArray 0) :: (16, tabObj #[]) :: (LL + 1, oc) :: R) := fun p hp => by
      rcases List.mem_cons.mp hp with rfl | hp
      · exact N7 _ hmD
      · rcases List.mem_cons.mp hp with rfl | hp
        · exact N6 _ (.tail _ (.tail _ (.tail _ (.tail _ (.head _)))))
        · rcases List.mem_cons.mp hp with rfl | hp
          · exact N6 _ (.tail _ (.tail _ (.tail _ (.head _))))
          · rcases List.mem_cons.mp hp with rfl | hp
            · exact N6 _ (.tail _ (.tail _ (.head _)))
            · rcases List.mem_cons.mp hp with rfl | hp
              · exact N6 _ (.tail _ (.head _))
              · rcases List.mem_cons.mp hp with rfl | hp
                · exact N7 _ hm16
                · rcases List.mem_cons.mp hp with rfl | hp
                  · exact N7 _ hmC
                  · subst hR
                    rcases List.mem_cons.mp hp with rfl | hp
                    · exact N6 _ (.tail _ (.tail _ (.tail _ (.tail _ (.tail _ (.head _))))))
                    · exact N7 _ (hkn p hp).1
    clear N6 N7 hms hms2 hmD hmD2 hkn hsub hm16 hmC hDn b1 b2 b3 b4 off'
    refine loop1 w (st := _) (oc := oc) (ds := ds) (dv := dv) (ys := ys) (R := R) (by rfl) (by rfl) BB XX TT hC hdv hdl hdn hyl hmsR hdaR hDR nRan nRar nRtb nRau nR16 nRC l16L nCan n16an o12 o23 o34 (.of_eq hg) dR (Nat.le_add_left 1 _) F6 N8 rfl rfl rfl rfl rfl rfl (by passes_own) ?_
    clear F6 N8
    · rintro nv rv tv uv n1 n2 n3 n4 ps row tab rs h tk gs m F3 N3 hSt hrl htr hgs ⟨em1, em2, em3, em4, em5, em6⟩ htkB
      have hall : ds.take ds.length = ds := List.take_length ..
      have hrsff := hSt.ff
      have hr3 := hSt.three hds trivial
      obtain ⟨l1, l2, l3, l4, l5⟩ := hSt.lens hdn.2 hrl (Nat.le_refl _)
      have hR1 : ∀ p ∈ R, p ∈ LG an ar tb au (LL + 1) oc R nv rv tv uv n1 n2 n3 n4 ps := LG_R
      walk_at "m.go"
      refine LCp.ListComp_P (F₀ := by k_asm) (by with_unfolding_all rfl) (by decide) (by rfl) (by decide) (by rfl) (by rfl) (by decide) ?_
      walk_at "m.gop"
      refine LCp.SrcLP.ledger rfl F3 N3 (hR1 _ hDR) (by rw [List.size_toArray]; unfold sizeLine; omega) fun g => ?_
      rw [List.size_toArray]
      refine CompRestP_inv (n := ys.length) (fun i zs nw => nw = LG an ar tb au (LL + 1) oc R nv rv tv uv n1 n2 n3 n4 ps ∧ FsAre R zs ((ds.take i).map fieldsOf)) ?_ ?_ ys.length 0 [] _ (Nat.zero_add _) ⟨rfl, .nil⟩
      · rintro i zs _ hi ⟨rfl, hzs⟩ v hv
        obtain ⟨x, hx⟩ : ∃ x, ds[i]? = some x := ⟨_, List.getElem?_eq_getElem (hyl ▸ hi)⟩
        obtain ⟨mt, fa', fi', fv, gv, nf, ng, tn, e1, e2, e3, e4, e5, e6⟩ := hmsR.get i x hx
        rw [List.getElem?_toArray, e1] at hv
        refine ⟨mt, _, .ref fa', .ref fi', tn, (Option.some.inj hv).symm, hR1 _ e2, rfl, rfl, ?_⟩
        intro I oI C oC D' m₂ h tk E' hC' hx' hx2' F' N' off' ne'
        walk_at "m.goc"
        refine CompEnd.intro F' N' _ (fun p hp => hp) off' (.inr ⟨_, hR1 _ hDR, rfl, _, rfl⟩) ⟨rfl, ?_⟩
        rw [take_next hx, List.map_append]
        exact hzs.append (.cons e4 e6 .nil)
      · rintro zs _ ⟨rfl, hzs⟩ D2 h4 tk4 F4 N4 o4
        rw [hyl, hall] at hzs
        have hzl := hzs.length
        rw [List.length_map] at hzl
        walk_at "m.goc"
        refine sorted_lists F4 N4 (isL N4 (.head _)) hzs (fun p hp => .tail _ (hR1 p hp)) (by omega) (by omega) (by ktr_units) ?_
        intro Dk ck h5 ks gss hks hperm hpw F5 N5 hDk
        dsimp only
        have hkl := hks.length
        have hgl := hperm.length_eq
        rw [List.length_map] at hgl
        have hgf : ∀ g ∈ gss, FF g ∧ g ≠ [] ∧ g.length ≤ 8 := fun g hg => by
          obtain ⟨x, _, rfl⟩ := List.mem_map.mp (hperm.mem_iff.mp hg)
          exact ⟨fields_ff x, fields_ne x, fields_len x⟩
        clear N4 F4 o4
        walk_at "m.go"
        (rename Fr _ _ _ _ => F6); (rename News _ _ _ _ => N6)
        have N7 : News gh LL _ ((Dk, PySem.W.listOf ks.toArray ck) :: LG an ar tb au (LL + 1) oc R nv rv tv uv n1 n2 n3 n4 ps) := fun p hp => N6 p (by
          rcases List.mem_cons.mp hp with rfl | hp
          · exact .head _
          · exact .tail _ (.tail _ hp))
        clear N6 hzs
        refine LCg.ListComp_U (F₀ := F6) (by rfl) (by decide) (by rfl) (by decide) (by rfl) ?_
        walk_at "m.goc"
        refine CompSrc.ledger rfl F6 N7 (.head _) (by rw [List.size_toArray]; unfold sizeLine; omega) fun g => ?_
        rw [List.size_toArray]
        refine CompRest_inv (n := ks.length) (fun i zs nw => nw = (Dk, PySem.W.listOf ks.toArray ck) :: LG an ar tb au (LL + 1) oc R nv rv tv uv n1 n2 n3 n4 ps ∧ StrsAre zs ((gss.take i).map J)) ?_ ?_ ks.length 0 [] _ (Nat.zero_add _) ⟨rfl, .nil⟩
        · rintro i zs _ hi ⟨rfl, hzs⟩ v I oI C oC D' m₂ h tk E' hv hC' hx' F' N' off' ne'
          obtain ⟨q, hq⟩ : ∃ q, gss[i]? = some q := ⟨_, List.getElem?_eq_getElem (by omega)⟩
          obtain ⟨qa, ws, qn, e1, e2, e3⟩ := hks.get i q hq
          have hqf := hgf q (List.mem_of_getElem? hq)
          rw [List.getElem?_toArray, e1] at hv
          obtain rfl := Option.some.inj hv
          walk_at "m.goc"
          refine join_led (isL (vs := ws) N' (.tail _ (.tail _ (.tail _ (.tail _ (hR1 _ e2)))))) e3 (joinOk_ff hqf.1 (by have := hqf.2.2; omega)) fun t6 k6 => ?_
          refine CompEnd.intro F' N' _ (fun p hp => hp) off' (.inr ⟨_, .head _, rfl, _, rfl⟩) ⟨rfl, ?_⟩
          rw [List.take_add_one, hq, List.map_append]
          exact StrsAre.append' hzs (.cons _ _ .nil)
        · rintro zs _ ⟨rfl, hzs⟩ D3 h6 tk6 F8 N8 o8
          rw [hkl, List.take_length] at hzs
          walk_at "m.goc"
          have hrow : row = gss.map J := srt_unique hSt.rowS (map_srt (fun g hg => (hgf g hg).1) hpw) (hSt.rowP.trans (by
            rw [hall]
            have := (hperm.map J).symm
            rw [List.map_map] at this
            exact this))
          refine ne_strs (isL (vs := rv) N8 (.tail _ (.tail _ (.tail _ (.head _))))) (isL (vs := zs) N8 (.head _)) hSt.rowA hzs (hrow ▸ okS_J fun g hg => (hgf g hg).1) (okS_J fun g hg => (hgf g hg).1) (by ktr_units) ?_
          rw [decide_eq_true hrow]
          dsimp only [Bool.not_true]
          walk_at "m.go"
          have N9 : News gh LL h6 ((Dk, PySem.W.listOf ks.toArray ck) :: LG an ar tb au (LL + 1) oc R nv rv tv uv n1 n2 n3 n4 ps) := fun p hp => N8 p (.tail _ hp)
          clear N8 N7 F6 o8
          refine LCg.ListComp_U (F₀ := F8) (by rfl) (by decide) (by rfl) (by decide) (by rfl) ?_
          walk_at "m.goc"
          refine sorted_lists F8 N9 (isL (vs := uv) N9 (.tail _ (.tail _ (.tail _ (.tail _ (.head _)))))) hSt.rul (fun p hp => .tail _ (hR1 p hp)) (by omega) (by omega) (by ktr_units) ?_
          intro Dr cr h10 us hss hus hperm2 hpw2 F10 N10 _
          dsimp only
          have hul := hus.length
          have hsl2 := hperm2.length_eq
          have hsf : ∀ g ∈ hss, FF g ∧ g ≠ [] ∧ g.length ≤ 8 := fun g hg => hrsff g (hperm2.mem_iff.mp hg)
          clear N9 F8
          refine CompSrc.ledger rfl F10 N10 (.head _) (by rw [List.size_toArray]; unfold sizeLine; omega) fun g => ?_
          rw [List.size_toArray]
          refine CompRest_inv (n := us.length) (fun i zs nw => nw = (Dr, PySem.W.listOf us.toArray cr) :: (Dk, PySem.W.listOf ks.toArray ck) :: LG an ar tb au (LL + 1) oc R nv rv tv uv n1 n2 n3 n4 ps ∧ StrsAre zs ((hss.take i).map J)) ?_ ?_ us.length 0 [] _ (Nat.zero_add _) ⟨rfl, .nil⟩
          · rintro i zs _ hi ⟨rfl, hzs⟩ v I oI C oC D' m₂ h tk E' hv hC' hx' F' N' off' ne'
            obtain ⟨q, hq⟩ : ∃ q, hss[i]? = some q := ⟨_, List.getElem?_eq_getElem (by omega)⟩
            obtain ⟨qa, ws, qn, e1, e2, e3⟩ := hus.get i q hq
            have hqf := hsf q (List.mem_of_getElem? hq)
            rw [List.getElem?_toArray, e1] at hv
            obtain rfl := Option.some.inj hv
            walk_at "m.goc"
            refine join_led (isL (vs := ws) N' (.tail _ (.tail _ (.tail _ (.tail _ (.tail _ (hR1 _ e2))))))) e3 (joinOk_ff hqf.1 (by have := hqf.2.2; omega)) fun t6 k6 => ?_
            refine CompEnd.intro F' N' _ (fun p hp => hp) off' (.inr ⟨_, .head _, rfl, _, rfl⟩) ⟨rfl, ?_⟩
            rw [List.take_add_one, hq, List.map_append]
            exact StrsAre.append' hzs (.cons _ _ .nil)
          · rintro zs _ ⟨rfl, hzs⟩ D4 h11 tk11 F11 N11 o11
            rw [hul, List.take_length] at hzs
            walk_at "m.goc"
            have htab : tab = hss.map J := srt_unique hSt.tabS (map_srt (fun g hg => (hsf g hg).1) hpw2) (hSt.tabP.trans (hperm2.map J).symm)
            refine ne_strs (isL (vs := tv) N11 (.tail _ (.tail _ (.tail _ (.tail _ (.tail _ (.head _))))))) (isL (vs := zs) N11 (.head _)) hSt.tabA hzs (htab ▸ okS_J fun g hg => (hsf g hg).1) (okS_J fun g hg => (hsf g hg).1) (by ktr_units) ?_
            rw [decide_eq_true htab]
            dsimp only [Bool.not_true]
            walk_at "m.go"
            have N12 : News gh LL h11 ((LL + 1, oc) :: (Dk, PySem.W.listOf ks.toArray ck) :: (an, PySem.W.listOf nv.toArray n1) :: (ar, PySem.W.listOf rv.toArray n2) :: (tb, PySem.W.listOf tv.toArray n3) :: (au, PySem.W.listOf uv.toArray n4) :: (16, tabObj ps) :: R) := fun p hp => N11 p (by
              rcases List.mem_cons.mp hp with rfl | hp
              · exact .tail _ (.tail _ (.tail _ (.tail _ (.tail _ (.tail _ (.tail _ (.tail _ (.head _))))))))
              · rcases List.mem_cons.mp hp with rfl | hp
                · exact .tail _ (.tail _ (.head _))
                · rcases List.mem_cons.mp hp with rfl | hp
                  · exact .tail _ (.tail _ (.tail _ (.head _)))
                  · rcases List.mem_cons.mp hp with rfl | hp
                    · exact .tail _ (.tail _ (.tail _ (.tail _ (.head _))))
                    · rcases List.mem_cons.mp hp with rfl | hp
                      · exact .tail _ (.tail _ (.tail _ (.tail _ (.tail _ (.head _)))))
                      · rcases List.mem_cons.mp hp with rfl | hp
                        · exact .tail _ (.tail _ (.tail _ (.tail _ (.tail _ (.tail _ (.head _))))))
                        · rcases List.mem_cons.mp hp with rfl | hp
                          · exact .tail _ (.tail _ (.tail _ (.tail _ (.tail _ (.tail _ (.tail _ (.head _)))))))
                          · exact .tail _ (.tail _ (.tail _ (.tail _ (.tail _ (.tail _ (.tail _ (.tail _ (.tail _ (hp))))))))))
            clear N11 o11 N10 F10 hzs
            have h16k : @LT.lt Nat _ 16 Dk := hDk (16, tabObj ps) (.tail _ (.tail _ (.tail _ (.tail _ (.tail _ (.head _))))))
            have d5 : LL + 1 ≠ Dk := Nat.ne_of_lt (hDk (LL + 1, oc) (.tail _ (.tail _ (.tail _ (.tail _ (.tail _ (.tail _ (.head _))))))))
            refine loop3 w (st := _) (ds := ds) (dv := dv) (ys := ys) (oc := oc) (R := R) (da := da) (D := D) (gss := gss) (tab := tab) (rs := rs) (row := row) (by rfl) (by rfl) BB XX TT hdn nR16 nRC l16L nCan n16an o12 o23 o34 h16k d5 hSt hrl dR hks (by omega) hgf hrow (map_srt (fun g hg => (hgf g hg).1) hpw) F11 N12 em1 em2 em3 em4 em5 em6 rfl (by passes_own) ?_
            rintro h12 tk12 m12 oc12 cv12 F12 N13 hcell ⟨k1, k2, k3, k4, k5, k6⟩ htk12
            clear F11 N12
            dsimp only
            walk_at "m.go"
            refine loop4 w (st := _) (ds := ds) (dv := dv) (ys := ys) (oc' := oc12) (R := R) (da := da) (D := D) (tab := tab) (rs := rs) (row := row) (by rfl) (by rfl) BB XX TT hC hdv hdl hdn hyl hmsR hdaR hDR nR16 nRC l16L nCan n16an o12 o23 o34 h16k d5 hSt hrl hgs htr hcell F12 N13 k1 k2 k3 k4 k5 k6 (by passes_own) ?_
            rintro h14 tk14 gs14 m14 oc14 ps14 F14 hgs14 htr14 N14
            dsimp only
            walk_at "m.go"
            exact hgs14
end Mine
end

theorem PySem.Challenge.cw_ph0096_01_holds : PySem.Challenge.rw_ph0096_01.Holds :=
  Mine.main
