import PyProof.Rows.All
import Wide.All
import OpenK.AllK
import Wide.FinOn
import PySem.Challenge.RW_ae5044_01
set_option Elab.async false
set_option maxRecDepth 100000
set_option maxHeartbeats 8000000
set_option linter.unusedVariables false
set_option linter.unusedSimpArgs false

section
open PySem PySem.W PyProof.Rows
namespace Mine
open_top hd for PySem.Challenge.rw_ae5044_01
end Mine

end

section
open PySem PySem.W PyProof.Rows PySem.Calls
namespace Mine

def Sm (i : Int) : Prop := 0 ≤ i ∧ i ≤ 8
def Ent (e : Int × Value) : Prop := ∃ tk, e.2 = .int e.1 tk

structure SetIs (es : Array (Int × Value)) (t : SetTable) (S : List Int) : Prop where
  fits : t.fits es.size = true
  perm : (es.toList.map (·.1)).Perm S
  ent : ∀ e ∈ es.toList, Ent e
  nodup : S.Nodup
  small : ∀ i ∈ S, Sm i

def SetAt (h : Heap) (a : Addr) (o : Obj) (S : List Int) : Prop := ∃ es ep t, h.get? a = some { o with data := .set es ep t } ∧ SetIs es t S

theorem len_small {S : List Int} (hn : S.Nodup) (hs : ∀ i ∈ S, Sm i) : S.length ≤ 9 := by
  have h : S ⊆ [0, 1, 2, 3, 4, 5, 6, 7, 8] := fun i hi => by
    have := hs i hi
    unfold Sm at this
    have : i = 0 ∨ i = 1 ∨ i = 2 ∨ i = 3 ∨ i = 4 ∨ i = 5 ∨ i = 6 ∨ i = 7 ∨ i = 8 := by omega
    simp only [List.mem_cons, List.not_mem_nil, or_false]; exact this
  exact List.Nodup.length_le_of_subset hn h

theorem hash_small {i : Int} (h : Sm i) : hashInt i = i := by
  obtain ⟨h0, h8⟩ := h
  have : i = 0 ∨ i = 1 ∨ i = 2 ∨ i = 3 ∨ i = 4 ∨ i = 5 ∨ i = 6 ∨ i = 7 ∨ i = 8 := by omega
  rcases this with rfl | rfl | rfl | rfl | rfl | rfl | rfl | rfl | rfl <;> decide

namespace SetIs
variable {es : Array (Int × Value)} {t : SetTable} {S : List Int}
theorem size_eq (H : SetIs es t S) : es.size = S.length := by rw [← H.perm.length_eq, List.length_map, Array.length_toList]
theorem size_le (H : SetIs es t S) : es.size ≤ 9 := H.size_eq ▸ len_small H.nodup H.small
theorem mem (H : SetIs es t S) {i : Int} : i ∈ S ↔ ∃ e ∈ es.toList, e.1 = i := by
  rw [← H.perm.mem_iff, List.mem_map]
theorem sm_of (H : SetIs es t S) {e : Int × Value} (he : e ∈ es.toList) : Sm e.1 := H.small _ (H.mem.mpr ⟨e, he, rfl⟩)
theorem elems (H : SetIs es t S) (prog : Program) (w : World) : ElemsOf (PySem.intKind prog w) es.toList := fun e he => by
  obtain ⟨tk, hv⟩ := H.ent e he
  refine ⟨⟨e.1, ?_, (hash_small (H.sm_of he)).symm⟩, ?_⟩
  · rw [hv]; exact intKind_is _ _ _ _
  · rw [hv]; rfl
theorem bound (H : SetIs es t S) : es.size < scanBound := by have := H.size_le; unfold scanBound; omega
theorem fit (H : SetIs es t S) : es.size ≤ sizeLine := fits_of_scanBound H.bound
theorem is_iff (H : SetIs es t S) (prog : Program) (w : World) {e : Int × Value} (he : e ∈ es.toList) (i : Int) : (PySem.intKind prog w).is i e.2 = true ↔ e.1 = i := by
  obtain ⟨tk, hv⟩ := H.ent e he
  rw [hv]; show Value.isInt i (.int e.1 tk) = true ↔ _
  simp [Value.isInt]
theorem find_none (H : SetIs es t S) (prog : Program) (w : World) {i : Int} (h : es.toList.findIdx? (fun e => (PySem.intKind prog w).is i e.2) = none) : i ∉ S := fun hm => by
  obtain ⟨e, he, hi⟩ := H.mem.mp hm
  have := List.findIdx?_eq_none_iff.mp h e he
  rw [(H.is_iff prog w he i).mpr hi] at this; cases this
theorem find_some (H : SetIs es t S) (prog : Program) (w : World) {i : Int} {j : Nat} (h : es.toList.findIdx? (fun e => (PySem.intKind prog w).is i e.2) = some j) : i ∈ S ∧ ∃ e, es[j]? = some e ∧ e.1 = i := by
  obtain ⟨hj, hp, _⟩ := List.findIdx?_eq_some_iff_getElem.mp h
  have hm := List.getElem_mem hj
  have hi := (H.is_iff prog w hm i).mp hp
  exact ⟨H.mem.mpr ⟨_, hm, hi⟩, _, by rw [← Array.getElem?_toList]; exact List.getElem?_eq_getElem hj, hi⟩
theorem anew (H : SetIs es t S) {es' : Array (Int × Value)} {t' : SetTable} (hp : es'.toList.Perm es.toList) (hf : t'.fits es'.size = true) : SetIs es' t' S :=
  ⟨hf, (hp.map _).trans H.perm, fun e he => H.ent e (hp.mem_iff.mp he), H.nodup, H.small⟩
theorem table (H : SetIs es t S) {t' : SetTable} (hf : t'.fits es.size = true) : SetIs es t' S := H.anew .rfl hf
theorem push (H : SetIs es t S) {i : Int} {tk : Tok} (hi : Sm i) (hn : i ∉ S) {es' : Array (Int × Value)} {t' : SetTable} (hp : es'.toList.Perm (es.push (i, .int i tk)).toList) (hf : t'.fits es'.size = true) : SetIs es' t' (S ++ [i]) := by
  rw [Array.toList_push] at hp
  refine ⟨hf, (hp.map _).trans ?_, fun e he => ?_, ?_, fun j hj => ?_⟩
  · rw [List.map_append]; exact H.perm.append_right _
  · rcases List.mem_append.mp (hp.mem_iff.mp he) with h | h
    · exact H.ent e h
    · rw [List.mem_singleton] at h; subst h; exact ⟨tk, rfl⟩
  · rw [List.nodup_append]; exact ⟨H.nodup, by simp, fun a ha b hb => by rw [List.mem_singleton] at hb; subst hb; exact fun e => hn (e ▸ ha)⟩
  · rcases List.mem_append.mp hj with h | h
    · exact H.small j h
    · rw [List.mem_singleton] at h; subst h; exact hi
theorem same (H : SetIs es t S) {S' : List Int} (hp : S.Perm S') : SetIs es t S' := ⟨H.fits, H.perm.trans hp, H.ent, hp.nodup_iff.mp H.nodup, fun i hi => H.small i (hp.mem_iff.mpr hi)⟩
end SetIs

section
variable {prog : Program} {w : World} {A : Around} {E : Value → Shared → Prop} {s : Shared} {a : Addr} {o : Obj} {es : Array (Int × Value)} {ep : Nat} {t : SetTable} {S : List Int}

theorem byScan_int (H : SetIs es t S) (i : Int) (tk : Tok) : byScan (.int i tk) es = true := by
  simp only [byScan, Bool.and_eq_true, decide_eq_true_eq]
  refine ⟨⟨rfl, H.bound⟩, ?_⟩
  rw [← Array.all_toList, List.all_eq_true]
  intro e he
  obtain ⟨tk, hv⟩ := H.ent e he
  rw [hv]; rfl

theorem scan_int {i : Int} {tk : Tok} {adding : Bool} {Q : ScanMet → Shared → Prop} {o' : Obj} (hi : Sm i) (ho : s.heap.get? a = some o') (hd : o'.data = .set es ep t) (H : SetIs es t S)
    (h : Q (match es.toList.findIdx? (fun e => (PySem.intKind prog w).is i e.2) with | some j => .found (0 + j) | none => .absent) s) :
    wpAny (model prog w) A (setScan a (.int i tk) i adding es) Q E s := by
  have L := wpAny_setScan_of (knd := PySem.intKind prog w) (A := A) (E := E) (x := .int i tk) (k := i) (adding := adding) (Q := Q) (intKind_is _ _ _ _) ho hd H.fits (H.elems prog w) h
  rw [show (PySem.intKind prog w).hash i = i from hash_small hi] at L
  exact L

theorem put_at {h : Heap} (hg : h.get? a = some { o with data := .set es ep t }) (es' : Array (Int × Value)) (t' : SetTable) :
    (h.update a (Obj.putSet es' t')).get? a = some { o with data := .set es' (ep + 1) t' } := by
  have := Heap.get?_update_self (Obj.putSet es' t') hg rfl
  exact this

theorem find_idx {i : Int} {tk : Tok} {Q : Option Nat → Shared → Prop} (hg : s.heap.get? a = some { o with data := .set es ep t }) (H : SetIs es t S)
    (hi : Sm i) (h : ∀ r : Option Nat, r.isSome = decide (i ∈ S) → (∀ j, r = some j → ∃ e, es[j]? = some e ∧ e.1 = i) → Q r s) : wpAny (model prog w) A (setFind a (.int i tk) i) Q E s := by
  unfold setFind setFindIn
  refine wpAny_bind (wpAny_setState_of hg rfl H.fits ?_)
  dsimp only
  rw [byScan_int H]
  simp only [↓reduceIte]
  refine wpAny_bind (wpAny_rule ?_)
  refine wpAny_bind (scan_int hi hg rfl H ?_)
  cases hr : List.findIdx? (fun e => (PySem.intKind prog w).is i e.2) es.toList with
  | none =>
    dsimp only
    exact wpAny_pure (h none (by simp [H.find_none prog w hr]) (fun j e => nomatch e))
  | some j =>
    dsimp only
    obtain ⟨hm, e, he, hei⟩ := H.find_some prog w hr
    refine wpAny_pure (h _ (by simp [hm]) fun j' e' => ?_)
    cases e'
    exact ⟨e, by rw [Nat.zero_add]; exact he, hei⟩

theorem find_ {i : Int} {tk : Tok} {Q : Option Nat → Shared → Prop} (H : SetAt s.heap a o S)
    (hi : Sm i) (h : ∀ r : Option Nat, r.isSome = decide (i ∈ S) → Q r s) : wpAny (model prog w) A (setFind a (.int i tk) i) Q E s := by
  obtain ⟨es, ep, t, hg, H⟩ := H
  exact find_idx hg H hi fun r hr _ => h r hr

theorem add_tail {g : Bool → Sem Unit} (hq : ∀ (b : Bool) (s₁ : Shared) (Q' : Unit → Shared → Prop), Q' () s₁ → wpAny (model prog w) A (g b) Q' E s₁)
    (hg : s.heap.get? a = some { o with data := .set es ep t }) {es1 : Array (Int × Value)} {t1 : SetTable} (H : SetIs es1 t1 S) {wasDummy : Bool} {R : Option Bool → Shared → Prop}
    (h : ∀ h', Heap.SameBut a s.heap h' → SetAt h' a o S → R (some true) { s with heap := h' }) :
    wpAny (model prog w) A (do
        storeSet a es1 t1
        if (!wasDummy && t1.tooFull) = true then do
            g (relayAll t1 es1 (SetTable.grown es1.size)).2.2
            storeSet a (relayAll t1 es1 (SetTable.grown es1.size)).1 (relayAll t1 es1 (SetTable.grown es1.size)).2.1
            pure (some true)
          else pure (some true)) R E s := by
  have hg1 := put_at hg es1 t1
  have sb1 := Heap.SameBut.update s.heap a (Obj.putSet es1 t1)
  refine wpAny_bind (wpAny_storeSet_of hg rfl ?_ H.fit)
  split
  · have hp := relayAll_perm t1 es1 (SetTable.grown es1.size)
    have hf := relayAll_fits t1 es1 (SetTable.grown es1.size)
    refine wpAny_bind (hq _ _ _ ?_)
    have H2 := H.anew hp hf
    refine wpAny_bind (wpAny_storeSet_of hg1 rfl ?_ H2.fit)
    exact wpAny_pure (h _ (sb1.trans (Heap.SameBut.update _ a _)) ⟨_, _, _, put_at hg1 _ _, H2⟩)
  · exact wpAny_pure (h _ sb1 ⟨_, _, _, hg1, H⟩)

theorem add_ {i : Int} {tk : Tok} {Q : Bool → Shared → Prop} (H : SetAt s.heap a o S) (hi : Sm i)
    (h : ∀ h', Heap.SameBut a s.heap h' → SetAt h' a o (if i ∈ S then S else S ++ [i]) → Q (decide (i ∉ S)) { s with heap := h' }) :
    wpAny (model prog w) A (setAddHashed a (.int i tk) i) Q E s := by
  obtain ⟨es, ep, t, hg, H⟩ := H
  unfold setAddHashed setAddHashedIn
  refine wpAny_holding (wpAny_bind (wpAny_setState_of hg rfl H.fits ?_))
  dsimp only
  rw [byScan_int H]
  simp only [↓reduceIte]
  unfold setAddByScan
  refine wpAny_bind ?_
  refine wpAny_bind (wpAny_rule ?_)
  refine wpAny_bind (scan_int hi hg rfl H ?_)
  cases hr : List.findIdx? (fun e => (PySem.intKind prog w).is i e.2) es.toList with
  | some j =>
    dsimp only
    obtain ⟨hm, _⟩ := H.find_some prog w hr
    refine wpAny_pure (wpAny_pure ?_)
    have := h s.heap (Heap.SameBut.refl a s.heap) ⟨es, ep, t, hg, by rw [if_pos hm]; exact H⟩
    rw [show decide (i ∉ S) = false by simp [hm]] at this
    exact this
  | none =>
    dsimp only
    have hm := H.find_none prog w hr
    rw [show decide (i ∉ S) = true by simp [hm], if_neg hm] at h
    have hgw : ∀ (b : Bool) {s₁ : Shared} {Q' : Unit → Shared → Prop}, Q' () s₁ → wpAny (model prog w) A (match b with | true => rule "set.scan.the-table-gave-way" | false => pure ()) Q' E s₁ :=
      fun b s₁ Q' hq => by cases b <;> first | exact wpAny_pure hq | exact wpAny_rule hq
    have hperm := layNew_perm t es i (.int i tk)
    have hfits := layNew_fits t es i (.int i tk)
    generalize layNew t es i (.int i tk) = L at hperm hfits ⊢
    obtain ⟨es1, t1, wasDummy, gave⟩ := L
    dsimp only at hperm hfits ⊢
    have H1 := H.push hi hm hperm hfits
    refine wpAny_bind (hgw _ ?_)
    split
    · refine wpAny_bind ?_
      rw [hashByValue_scannable 8 (x := .int i tk) rfl]
      refine wpAny_pure ?_
      refine add_tail ?_ hg (H1.table ?_) ?_
      · intro b s₁ Q' hq; cases b <;> first | exact wpAny_pure hq | exact wpAny_rule hq
      · split
        · exact hfits
        · exact SetTable.fits_plain_off hfits
      · intro h' hsb hS'; dsimp only; exact wpAny_pure (h h' hsb hS')
    · refine wpAny_bind (wpAny_pure ?_)
      simp only [↓reduceIte]
      refine add_tail ?_ hg H1 ?_
      · intro b s₁ Q' hq; cases b <;> first | exact wpAny_pure hq | exact wpAny_rule hq
      · intro h' hsb hS'; dsimp only; exact wpAny_pure (h h' hsb hS')
end
end Mine

end

section
open PySem PySem.W PyProof.Rows PySem.Calls
namespace Mine

theorem erase_perm {α : Type} {l : List α} {i : Nat} (h : i < l.length) : ([l[i]] ++ l.eraseIdx i).Perm l := by
  rw [List.eraseIdx_eq_take_drop_succ]
  have e : l = l.take i ++ l[i] :: l.drop (i + 1) := by rw [← List.drop_eq_getElem_cons h, List.take_append_drop]
  calc List.Perm ([l[i]] ++ (l.take i ++ l.drop (i + 1))) (l.take i ++ l[i] :: l.drop (i + 1)) := by rw [List.singleton_append]; exact List.perm_middle.symm
    _ = l := e.symm

theorem pick_go {α : Type} (next : Nat → Nat) : ∀ (fuel k : Nat) (left : List α) (out : Array α), left.length ≤ fuel → (pickOrder.go next fuel k left out).toList.Perm (out.toList ++ left)
  | 0, k, left, out, h => by
    cases left with
    | nil => simp [pickOrder.go]
    | cons x r => simp at h
  | fuel + 1, k, left, out, h => by
    unfold pickOrder.go
    cases hx : left[next k % left.length]? with
    | none =>
      have : left = [] := by
        cases left with
        | nil => rfl
        | cons x r =>
          have := List.getElem?_eq_none_iff.mp hx
          have := Nat.mod_lt (next k) (show 0 < (x :: r).length by simp)
          omega
      subst this; simp
    | some x =>
      obtain ⟨hlt, hx⟩ := List.getElem?_eq_some_iff.mp hx
      have hl : (left.eraseIdx (next k % left.length)).length ≤ fuel := by rw [List.length_eraseIdx_of_lt hlt]; omega
      refine (pick_go next fuel (k + 1) _ _ hl).trans ?_
      rw [Array.toList_push, List.append_assoc]
      refine List.Perm.append_left _ ?_
      subst hx
      exact erase_perm hlt

theorem pick_perm {α : Type} (next : Nat → Nat) (xs : Array α) : (pickOrder next xs).toList.Perm xs.toList := by
  have := pick_go next xs.size 0 xs.toList #[] (by simp)
  simpa [pickOrder] using this

structure Walks (es : Array (Int × Value)) (S : List Int) : Prop where
  perm : (es.toList.map (·.1)).Perm S
  ent : ∀ e ∈ es.toList, Ent e

section
variable {prog : Program} {w : World} {A : Around} {E : Value → Shared → Prop} {s : Shared} {a : Addr} {o : Obj} {es : Array (Int × Value)} {ep : Nat} {t : SetTable} {S : List Int}

theorem SetIs.walks (H : SetIs es t S) {es' : Array (Int × Value)} (hp : es'.toList.Perm es.toList) : Walks es' S := ⟨(hp.map _).trans H.perm, fun e he => H.ent e (hp.mem_iff.mp he)⟩

theorem SetAt.entries {Q : Array (Int × Value) → Shared → Prop} (H : SetAt s.heap a o S) (h : ∀ es t, SetIs es t S → Q es s) : wpAny (model prog w) A (setEntries a) Q E s := by
  obtain ⟨es, ep, t, hg, H⟩ := H
  exact wpAny_setEntries_of hg rfl H.fits (h es t H)

theorem quiet_ {sets : List Addr} {Q : Bool → Shared → Prop} (H : ∀ a ∈ sets, ∃ o S, SetAt s.heap a o S) (h : Q true s) : wpAny (model prog w) A (setsQuiet sets) Q E s := by
  unfold setsQuiet
  dsimp only
  refine wpAny_bind (wpAny_forIn_list _ (fun rest b s' => b.1 = none ∧ s' = s ∧ ∀ a ∈ rest, ∃ o S, SetAt s.heap a o S) _ ?_ ?_ _ _ ⟨rfl, rfl, H⟩)
  · rintro a rest b s' ⟨hb, rfl, hr⟩
    obtain ⟨o, S, es, ep, t, hg, HS⟩ := hr a (.head _)
    refine wpAny_bind (wpAny_setEntries_of hg rfl HS.fits ?_)
    refine wpAny_bind (wpAny_forIn_array' _ (fun rest b s'' => b.1 = none ∧ s'' = s' ∧ ∀ e ∈ rest, Ent e) _ ?_ ?_ _ _ ⟨rfl, rfl, HS.ent⟩)
    · rintro e rest2 b2 s2 ⟨hb2, rfl, he⟩
      obtain ⟨tk, hv⟩ := he e (.head _)
      obtain ⟨e1, e2⟩ := e
      dsimp only at hv
      subst hv
      exact wpAny_pure ⟨rfl, rfl, fun e h => he e (.tail _ h)⟩
    · rintro b2 s2 ⟨hb2, rfl, _⟩
      rw [hb2]
      exact wpAny_pure ⟨rfl, rfl, fun a h => hr a (.tail _ h)⟩
  · rintro b s' ⟨hb, rfl, _⟩
    rw [hb]
    exact wpAny_pure h

theorem byText_ {Q : Bool → Shared → Prop} (h : Q (w.params.followText "set-order") s) : wpAny (model prog w) A setsByText Q E s := by
  unfold setsByText
  exact wpAny_bind (wpAny_askSetting (wpAny_pure h))

theorem walk_ {Q : Array (Int × Value) → Shared → Prop} (hg : s.heap.get? a = some { o with data := .set es ep t }) (H : SetIs es t S)
    (hc : (w.params.followText "set-order" || (t.led && t.plain) || decide (es.size ≤ 1)) = true) (h : ∀ es, Walks es S → Q es s) : wpAny (model prog w) A (setWalk a) Q E s := by
  unfold setWalk
  refine wpAny_bind (wpAny_setState_of hg rfl H.fits ?_)
  dsimp only
  refine wpAny_bind (byText_ ?_)
  cases hb : w.params.followText "set-order" with
  | true =>
    simp only [if_true]
    exact wpAny_bind (wpAny_askSetting (wpAny_pure (h _ (H.walks (pick_perm _ _)))))
  | false =>
    rw [hb] at hc
    simp only [Bool.false_or, Bool.or_eq_true, Bool.and_eq_true, decide_eq_true_eq] at hc
    simp only [Bool.false_eq_true, if_false]
    have e1 : (!t.plain && decide (es.size > 1)) = false := by
      rcases hc with ⟨_, hp⟩ | hc
      · simp [hp]
      · simp; intro _; omega
    have e2 : (!t.led && decide (es.size > 1)) = false := by
      rcases hc with ⟨hl, _⟩ | hc
      · simp [hl]
      · simp; intro _; omega
    show wpAny _ _ (if (!t.plain && decide (es.size > 1)) = true then _ else _) _ _ _
    rw [e1]
    simp only [Bool.false_eq_true, if_false]
    refine wpAny_bind ?_
    show wpAny _ _ (if (!t.led && decide (es.size > 1)) = true then _ else _) _ _ _
    rw [e2]
    simp only [Bool.false_eq_true, if_false]
    exact wpAny_pure (wpAny_pure (h _ (H.walks .rfl)))

theorem unseen0 {others : List Addr} {Q : Array (Int × Value) → Shared → Prop} (H : SetAt s.heap a o S) (Ho : ∀ b ∈ others, ∃ o S, SetAt s.heap b o S)
    (h : ∀ es, Walks es S → Q es s) : wpAny (model prog w) A (setWalkUnseen a others none) Q E s := by
  have Ha := H
  obtain ⟨es, ep, t, hg, H⟩ := H
  unfold setWalkUnseen
  refine wpAny_bind (wpAny_setState_of hg rfl H.fits ?_)
  dsimp only
  refine wpAny_bind (byText_ ?_)
  split
  · rename_i hc
    exact walk_ hg H hc h
  · refine wpAny_bind (quiet_ (fun b hb => ?_) ?_)
    · rcases List.mem_cons.mp hb with rfl | hb
      · exact ⟨_, _, Ha⟩
      · exact Ho b hb
    · simp only [Bool.not_true, Bool.false_eq_true, if_false]
      exact wpAny_bind (wpAny_rule (wpAny_pure (h es (H.walks .rfl))))

theorem unseen1 {others : List Addr} {f : Addr} {of : Obj} {Sf : List Int} {Q : Array (Int × Value) → Shared → Prop} (H : SetAt s.heap a o S) (Ho : ∀ b ∈ others, ∃ o S, SetAt s.heap b o S) (Hf : SetAt s.heap f of Sf)
    (h : ∀ es h', Walks es S → Heap.SameBut f s.heap h' → SetAt h' f of Sf → Q es { s with heap := h' }) : wpAny (model prog w) A (setWalkUnseen a others (some f)) Q E s := by
  have Ha := H
  obtain ⟨es, ep, t, hg, H⟩ := H
  unfold setWalkUnseen
  refine wpAny_bind (wpAny_setState_of hg rfl H.fits ?_)
  dsimp only
  refine wpAny_bind (byText_ ?_)
  have h0 : ∀ es, Walks es S → Q es s := fun es W => h es s.heap W (.refl _ _) Hf
  split
  · rename_i hc
    exact walk_ hg H hc h0
  · refine wpAny_bind (quiet_ (fun b hb => ?_) ?_)
    · rcases List.mem_cons.mp hb with rfl | hb
      · exact ⟨_, _, Ha⟩
      · exact Ho b hb
    · simp only [Bool.not_true, Bool.false_eq_true, if_false]
      obtain ⟨es', ep', t', hg', H'⟩ := Hf
      refine wpAny_bind (wpAny_rule (wpAny_bind (wpAny_setState_of hg' rfl H'.fits ?_)))
      dsimp only
      split
      · refine wpAny_bind (wpAny_storeSet_of hg' rfl (wpAny_pure (h _ _ (H.walks .rfl) (Heap.SameBut.update _ _ _) ⟨_, _, _, put_at hg' _ _, H'.table ?_⟩)) H'.fit)
        exact H'.fits
      · exact wpAny_pure (h0 es (H.walks .rfl))
end
end Mine

end

section
open PySem PySem.W PyProof.Rows PySem.Calls
namespace Mine
open SetTable (layClean)

structure Own (owner : Array (Option Nat)) (m n : Nat) : Prop where
  size : owner.size = m + 1
  all : ∀ k : Nat, k < n → ∃ j : Nat, owner[j]? = some (some k)
  lt : ∀ j k : Nat, owner[j]? = some (some k) → k < n
  inj : ∀ j j' k : Nat, owner[j]? = some (some k) → owner[j']? = some (some k) → j = j'

def occ (owner : Array (Option Nat)) (j : Nat) : Bool := (owner.getD j (some 0)).isNone

theorem occ_free {owner : Array (Option Nat)} {j : Nat} (h : occ owner j = true) : owner[j]? = some none := by
  unfold occ at h
  rw [Array.getD_eq_getD_getElem?] at h
  cases e : owner[j]? with
  | none => rw [e] at h; cases h
  | some x => rw [e] at h; cases x with
    | none => rfl
    | some k => cases h

theorem Own.crowd {owner : Array (Option Nat)} {m n : Nat} (H : Own owner m n) {js : List Nat} (hn : js.Nodup) (hj : ∀ j ∈ js, j ≤ m ∧ occ owner j = false) : js.length ≤ n := by
  have at_ : ∀ j ∈ js, ∃ k, owner[j]? = some (some k) := fun j h => by
    obtain ⟨h1, h2⟩ := hj j h
    unfold occ at h2
    rw [Array.getD_eq_getD_getElem?] at h2
    have hlt : j < owner.size := by rw [H.size]; omega
    rw [Array.getElem?_eq_getElem hlt] at h2 ⊢
    cases e : owner[j] with
    | none => rw [e] at h2; cases h2
    | some k => exact ⟨k, rfl⟩
  have hf : ∀ j ∈ js, ∀ k, owner[j]? = some (some k) → (owner.getD j (some 0)).getD 0 = k := fun j _ k e => by rw [Array.getD_eq_getD_getElem?, e]; rfl
  have nd : (js.map fun j => (owner.getD j (some 0)).getD 0).Nodup := by
    rw [List.nodup_iff_pairwise_ne, List.pairwise_map]
    refine (List.nodup_iff_pairwise_ne.mp hn).imp_of_mem fun {a b} ha hb hab e => hab ?_
    obtain ⟨k, hk⟩ := at_ a ha
    obtain ⟨k', hk'⟩ := at_ b hb
    rw [hf a ha k hk, hf b hb k' hk'] at e
    subst e
    exact H.inj a b k hk hk'
  have sub : (js.map fun j => (owner.getD j (some 0)).getD 0) ⊆ List.range n := fun x hx => by
    obtain ⟨j, hj', rfl⟩ := List.mem_map.mp hx
    obtain ⟨k, hk⟩ := at_ j hj'
    rw [hf j hj' k hk, List.mem_range]
    exact H.lt j k hk
  have := List.Nodup.length_le_of_subset nd sub
  simpa using this

theorem Own.put {owner : Array (Option Nat)} {m n j : Nat} (H : Own owner m n) (hj : owner[j]? = some none) : Own (owner.setIfInBounds j (some n)) m (n + 1) := by
  obtain ⟨hlt, _⟩ := Array.getElem?_eq_some_iff.mp hj
  refine ⟨by rw [Array.size_setIfInBounds]; exact H.size, fun k hk => ?_, fun i k e => ?_, fun i i' k e e' => ?_⟩
  · by_cases h : k = n
    · subst h; exact ⟨j, by rw [Array.getElem?_setIfInBounds_self_of_lt hlt]⟩
    · obtain ⟨i, hi⟩ := H.all k (by omega)
      refine ⟨i, ?_⟩
      rw [Array.getElem?_setIfInBounds_ne (by intro e; subst e; rw [hj] at hi; cases hi)]; exact hi
  · by_cases h : j = i
    · subst h; rw [Array.getElem?_setIfInBounds_self_of_lt hlt] at e; cases e; omega
    · rw [Array.getElem?_setIfInBounds_ne h] at e; have := H.lt i k e; omega
  · by_cases h : j = i
    · subst h; rw [Array.getElem?_setIfInBounds_self_of_lt hlt] at e; cases e
      by_cases h' : j = i'
      · exact h'
      · rw [Array.getElem?_setIfInBounds_ne h'] at e'; have := H.lt i' n e'; omega
    · rw [Array.getElem?_setIfInBounds_ne h] at e
      by_cases h' : j = i'
      · subst h'; rw [Array.getElem?_setIfInBounds_self_of_lt hlt] at e'; cases e'; have := H.lt i n e; omega
      · rw [Array.getElem?_setIfInBounds_ne h'] at e'; exact H.inj i i' k e e'

theorem Own.start (m : Nat) : Own (Array.replicate (m + 1) none) m 0 :=
  ⟨by simp, fun k h => absurd h (Nat.not_lt_zero _), fun j k e => (by rw [Array.getElem?_replicate] at e; split at e <;> simp at e), fun j j' k e _ => (by rw [Array.getElem?_replicate] at e; split at e <;> simp at e)⟩

theorem free_succ (m : Nat) (owner : Array (Option Nat)) (fuel i p : Nat) : layClean.free m owner (fuel + 1) i p =
    match (List.range (SetTable.runEnd m i + 1 - i)).find? fun k => occ owner (i + k) with
    | some k => some (i + k)
    | none => layClean.free m owner fuel (SetTable.leap m i p).1 (SetTable.leap m i p).2 := rfl

theorem free_sound {m : Nat} {owner : Array (Option Nat)} : ∀ {fuel i p j : Nat}, layClean.free m owner fuel i p = some j → owner[j]? = some none
  | 0, _, _, _, e => nomatch e
  | fuel + 1, i, p, j, e => by
    rw [free_succ] at e
    split at e
    · rename_i k hk
      cases e
      have := List.find?_some hk
      exact occ_free this
    · exact free_sound e

theorem free_none {m : Nat} {owner : Array (Option Nat)} {fuel i p : Nat} (e : layClean.free m owner (fuel + 1) i p = none) :
    (∀ k, k < SetTable.runEnd m i + 1 - i → occ owner (i + k) = false) ∧ layClean.free m owner fuel (SetTable.leap m i p).1 (SetTable.leap m i p).2 = none := by
  rw [free_succ] at e
  split at e
  · cases e
  · rename_i h
    refine ⟨fun k hk => ?_, e⟩
    have := List.find?_eq_none.mp h k (List.mem_range.mpr hk)
    simpa using this

theorem run7 {i : Nat} (h : i < 8) : SetTable.runEnd 7 i = i := by unfold SetTable.runEnd; rw [if_neg (by omega)]

theorem free7_one {owner : Array (Option Nat)} {fuel i p : Nat} (hi : i < 8) (hp : p < 32) (e : layClean.free 7 owner (fuel + 1) i p = none) :
    occ owner i = false ∧ layClean.free 7 owner fuel ((i * 5 + 1) % 8) 0 = none := by
  obtain ⟨h1, h2⟩ := free_none e
  rw [run7 hi] at h1
  have := h1 0 (by omega)
  have hp0 : p / 32 = 0 := by omega
  simp only [SetTable.leap, hp0, Nat.add_zero] at h2
  exact ⟨this, h2⟩

theorem free7 {owner : Array (Option Nat)} {n i p : Nat} (H : Own owner 7 n) (hn : n < 8) (hi : i < 8) (hp : p < 32) : layClean.free 7 owner (SetTable.turns 7) i p ≠ none := by
  intro e
  have e : layClean.free 7 owner (((((((14 + 1) + 1) + 1) + 1) + 1) + 1) + 1 + 1) i p = none := e
  obtain ⟨o0, e⟩ := free7_one hi hp e
  obtain ⟨o1, e⟩ := free7_one (by omega) (by omega) e
  obtain ⟨o2, e⟩ := free7_one (by omega) (by omega) e
  obtain ⟨o3, e⟩ := free7_one (by omega) (by omega) e
  obtain ⟨o4, e⟩ := free7_one (by omega) (by omega) e
  obtain ⟨o5, e⟩ := free7_one (by omega) (by omega) e
  obtain ⟨o6, e⟩ := free7_one (by omega) (by omega) e
  obtain ⟨o7, e⟩ := free7_one (by omega) (by omega) e
  clear e
  have := H.crowd (js := [0, 1, 2, 3, 4, 5, 6, 7]) (by decide) (fun j hj => ?_)
  · simp at this; omega
  · have hi : i = 0 ∨ i = 1 ∨ i = 2 ∨ i = 3 ∨ i = 4 ∨ i = 5 ∨ i = 6 ∨ i = 7 := by omega
    have hj : j = 0 ∨ j = 1 ∨ j = 2 ∨ j = 3 ∨ j = 4 ∨ j = 5 ∨ j = 6 ∨ j = 7 := by simpa using hj
    rcases hi with rfl | rfl | rfl | rfl | rfl | rfl | rfl | rfl <;> simp only [Nat.reduceMul, Nat.reduceAdd, Nat.reduceMod] at o0 o1 o2 o3 o4 o5 o6 o7 <;>
      (rcases hj with rfl | rfl | rfl | rfl | rfl | rfl | rfl | rfl <;> (constructor; omega; assumption))

theorem free_run {owner : Array (Option Nat)} {m n fuel i p : Nat} (H : Own owner m n) (hn : n < 10) (hi : i + 9 ≤ m) : layClean.free m owner (fuel + 1) i p ≠ none := by
  intro e
  obtain ⟨h1, _⟩ := free_none e
  have hr : SetTable.runEnd m i = i + 9 := by unfold SetTable.runEnd; rw [if_pos hi]
  rw [hr] at h1
  have := H.crowd (js := (List.range 10).map (i + ·)) (by
    rw [List.nodup_iff_pairwise_ne, List.pairwise_map]
    exact (List.nodup_iff_pairwise_ne.mp List.nodup_range).imp fun h e => h (by omega)) (fun j hj => ?_)
  · simp at this; omega
  · obtain ⟨k, hk, rfl⟩ := List.mem_map.mp hj
    have hk := List.mem_range.mp hk
    exact ⟨by omega, h1 k (by omega)⟩

theorem leap15 {owner : Array (Option Nat)} {fuel i p : Nat} (hp : p < 32) (e : layClean.free 15 owner (fuel + 1) i p = none) : layClean.free 15 owner fuel ((i * 5 + 1) % 16) 0 = none := by
  obtain ⟨_, h2⟩ := free_none e
  have hp0 : p / 32 = 0 := by omega
  simp only [SetTable.leap, hp0, Nat.add_zero] at h2
  exact h2

theorem free15 {owner : Array (Option Nat)} {n i p : Nat} (H : Own owner 15 n) (hn : n < 10) (hi : i < 9) (hp : p < 32) : layClean.free 15 owner (SetTable.turns 15) i p ≠ none := by
  by_cases h : i ≤ 6
  · exact free_run (fuel := 29) H hn (by omega)
  · intro e
    have e : layClean.free 15 owner (((((25 + 1) + 1) + 1) + 1) + 1) i p = none := e
    have hi : i = 7 ∨ i = 8 := by omega
    rcases hi with rfl | rfl
    · exact free_run H hn (by omega) (leap15 hp e)
    · exact free_run H hn (by omega) (leap15 (by omega) (leap15 (by omega) (leap15 (by omega) (leap15 hp e))))

theorem free31 {owner : Array (Option Nat)} {m n i p : Nat} (hm : 17 ≤ m) (H : Own owner m n) (hn : n < 10) (hi : i < 9) : layClean.free m owner (SetTable.turns m) i p ≠ none := by
  have : SetTable.turns m = (m + 14) + 1 := rfl
  rw [this]
  exact free_run H hn (by omega)

def Roomy (m n : Nat) : Prop := (m = 7 ∧ n ≤ 7) ∨ (m = 15 ∧ n ≤ 9) ∨ (17 ≤ m ∧ n ≤ 9)

theorem bits_small {h : Int} (hs : Sm h) : SetTable.bits h = h.toNat ∧ h.toNat < 9 := by
  obtain ⟨h0, h8⟩ := hs
  unfold SetTable.bits
  have : h % (2 ^ 64 : Int) = h := Int.emod_eq_of_lt h0 (by omega)
  rw [this]; exact ⟨rfl, by omega⟩

theorem free_ok {owner : Array (Option Nat)} {m n : Nat} {h : Int} (H : Own owner m n) (hr : Roomy m (n + 1)) (hs : Sm h) :
    ∃ j, layClean.free m owner (SetTable.turns m) (SetTable.bits h % (m + 1)) (SetTable.bits h) = some j ∧ owner[j]? = some none := by
  obtain ⟨hb, hl⟩ := bits_small hs
  have key : layClean.free m owner (SetTable.turns m) (SetTable.bits h % (m + 1)) (SetTable.bits h) ≠ none := by
    rw [hb]
    rcases hr with ⟨rfl, hn⟩ | ⟨rfl, hn⟩ | ⟨hm, hn⟩
    · exact free7 H (by omega) (Nat.mod_lt _ (by omega)) (by omega)
    · have : h.toNat % 16 ≤ h.toNat := Nat.mod_le _ _
      exact free15 H (by omega) (by omega) (by omega)
    · have : h.toNat % (m + 1) ≤ h.toNat := Nat.mod_le _ _
      exact free31 hm H (by omega) (by omega)
  cases e : layClean.free m owner (SetTable.turns m) (SetTable.bits h % (m + 1)) (SetTable.bits h) with
  | none => exact absurd e key
  | some j => exact ⟨j, rfl, free_sound e⟩

theorem clean_go {m : Nat} : ∀ (hs : List Int) {owner : Array (Option Nat)} {n : Nat}, Own owner m n → Roomy m (n + hs.length) → (∀ h ∈ hs, Sm h) →
    ∃ owner', hs.foldl (init := some (owner, n)) (fun acc h => do
      let (owner, k) ← acc
      let j ← layClean.free m owner (SetTable.turns m) (SetTable.bits h % (m + 1)) (SetTable.bits h)
      pure (owner.setIfInBounds j (some k), k + 1)) = some (owner', n + hs.length) ∧ Own owner' m (n + hs.length)
  | [], owner, n, H, _, _ => ⟨owner, rfl, H⟩
  | h :: r, owner, n, H, hr, hs => by
    have hr1 : Roomy m (n + 1) := by unfold Roomy at hr ⊢; simp only [List.length_cons] at hr; omega
    obtain ⟨j, hj, hf⟩ := free_ok H hr1 (hs h (.head _))
    obtain ⟨owner', h1, h2⟩ := clean_go r (H.put hf) (by rw [List.length_cons] at hr; rw [show n + 1 + r.length = n + (r.length + 1) by omega]; exact hr) (fun x hx => hs x (.tail _ hx))
    refine ⟨owner', ?_, by rw [List.length_cons, show n + (r.length + 1) = n + 1 + r.length by omega]; exact h2⟩
    rw [List.foldl_cons]
    simp only [Option.bind_eq_bind, Option.bind_some, hj, Option.pure_def] at h1 ⊢
    rw [h1, List.length_cons, show n + (r.length + 1) = n + 1 + r.length by omega]

theorem clean_ok {m : Nat} {hs : Array Int} (hr : Roomy m hs.size) (h : ∀ x ∈ hs.toList, Sm x) : ∃ owner, layClean m hs = some owner ∧ Own owner m hs.size := by
  obtain ⟨owner, h1, h2⟩ := clean_go hs.toList (Own.start m) (by rw [Nat.zero_add, Array.length_toList]; exact hr) h
  rw [Nat.zero_add, Array.length_toList] at h2
  refine ⟨owner, ?_, h2⟩
  unfold layClean
  rw [← Array.foldl_toList, h1]; rfl

end Mine

end

section
open PySem PySem.W PyProof.Rows PySem.Calls
namespace Mine
open SetTable (layClean)

def liveOf (owner : Array (Option Nat)) (m : Nat) : List (Nat × Nat) := (List.range (m + 1)).filterMap fun j => (owner.getD j none).map (j, ·)

theorem mem_live {owner : Array (Option Nat)} {m j k : Nat} (hs : owner.size = m + 1) : (j, k) ∈ liveOf owner m ↔ owner[j]? = some (some k) := by
  unfold liveOf
  rw [List.mem_filterMap]
  constructor
  · rintro ⟨i, hi, e⟩
    rw [Array.getD_eq_getD_getElem?] at e
    cases h : owner[i]? with
    | none => rw [h] at e; cases e
    | some x => rw [h] at e; cases x with
      | none => cases e
      | some y => cases e; exact h
  · intro h
    obtain ⟨hlt, _⟩ := Array.getElem?_eq_some_iff.mp h
    refine ⟨j, List.mem_range.mpr (by omega), ?_⟩
    rw [Array.getD_eq_getD_getElem?, h]; rfl

theorem live_perm {owner : Array (Option Nat)} {m n : Nat} (H : Own owner m n) : ((liveOf owner m).map (·.2)).Perm (List.range n) := by
  have nd0 : ((liveOf owner m).map (·.1)).Nodup := by
    have : ((liveOf owner m).map (·.1)).Sublist (List.range (m + 1)) := by
      unfold liveOf
      rw [List.map_filterMap]
      have e : (List.range (m + 1)).filterMap (fun j => ((owner.getD j none).map (j, ·)).map (·.1)) = (List.range (m + 1)).filter (fun j => (owner.getD j none).isSome) := by
        rw [← List.filterMap_eq_filter]
        congr 1; funext j
        rw [Array.getD_eq_getD_getElem?]
        cases h : (owner[j]?.getD none) <;> simp [Option.guard, h]
      rw [e]; exact List.filter_sublist
    exact this.nodup List.nodup_range
  have nd : ((liveOf owner m).map (·.2)).Nodup := by
    rw [List.nodup_iff_pairwise_ne, List.pairwise_map] at nd0 ⊢
    refine nd0.imp_of_mem fun {a b} ha hb hab e => hab ?_
    obtain ⟨j, k⟩ := a; obtain ⟨j', k'⟩ := b
    dsimp only at e ⊢
    subst e
    exact H.inj j j' k ((mem_live H.size).mp ha) ((mem_live H.size).mp hb)
  refine (List.perm_ext_iff_of_nodup nd List.nodup_range).mpr fun k => ?_
  rw [List.mem_map, List.mem_range]
  constructor
  · rintro ⟨⟨j, k'⟩, hm, rfl⟩; exact H.lt j k' ((mem_live H.size).mp hm)
  · intro hk
    obtain ⟨j, hj⟩ := H.all k hk
    exact ⟨(j, k), (mem_live H.size).mpr hj, rfl⟩

theorem laid_ok {m finger moves : Nat} {led plain : Bool} {hs : Array Int} (hr : Roomy m hs.size) (h : ∀ x ∈ hs.toList, Sm x) :
    ∃ t' order, SetTable.laid m finger moves led plain hs = some (t', order) ∧ order.toList.Perm (List.range hs.size) ∧ t'.fits hs.size = true ∧ t'.mask = m := by
  obtain ⟨owner, h1, H⟩ := clean_ok hr h
  have P := live_perm H
  have L : (liveOf owner m).length = hs.size := by have := P.length_eq; simpa using this
  refine ⟨_, _, by unfold SetTable.laid; rw [h1]; rfl, ?_, ?_, rfl⟩
  · show List.Perm ((liveOf owner m).map (·.2)).toArray.toList _
    exact P
  · show SetTable.fits { mask := m, place := ((liveOf owner m).map (·.1)).toArray, dummies := #[], finger := finger, led := led, moves := moves, plain := plain } hs.size = true
    simp only [SetTable.fits, SetTable.fill, List.size_toArray, List.length_map, L, Bool.and_eq_true, beq_iff_eq, decide_eq_true_eq, List.length_nil, Nat.add_zero, true_and]
    unfold Roomy at hr
    omega

theorem order_perm {α : Type} {es : Array α} {order : Array Nat} (h : order.toList.Perm (List.range es.size)) : (order.filterMap (es[·]?)).toList.Perm es.toList := by
  rw [Array.toList_filterMap]
  exact (h.filterMap _).trans (by rw [filterMap_getElem?_range])

theorem hashes_small {es : Array (Int × Value)} {S : List Int} (W : Walks es S) (hs : ∀ i ∈ S, Sm i) : ∀ x ∈ (es.map (·.1)).toList, Sm x := fun x hx => by
  rw [Array.toList_map] at hx
  exact hs x (W.perm.mem_iff.mp hx)

section
variable {prog : Program} {w : World} {A : Around} {E : Value → Shared → Prop} {s : Shared} {a : Addr} {o : Obj} {es : Array (Int × Value)} {ep : Nat} {t : SetTable} {S : List Int}

theorem SetIs.walk0 (H : SetIs es t S) : Walks es S := ⟨H.perm, H.ent⟩

theorem relay_at {wanted : Nat} {Q : Unit → Shared → Prop} (hg : s.heap.get? a = some { o with data := .set es ep t }) (H : SetIs es t S) (hr : Roomy (SetTable.sizeAbove wanted - 1) S.length) (hz : SetTable.sizeAbove wanted ≤ sizeLine)
    (h : ∀ es' t', SetIs es' t' S → t'.mask = SetTable.sizeAbove wanted - 1 → (t'.fill = S.length) → Q () { s with heap := s.heap.update a (Obj.putSet es' t') }) : wpAny (model prog w) A (setRelay a wanted) Q E s := by
  unfold setRelay
  refine wpAny_bind (wpAny_setState_of hg rfl H.fits ?_)
  dsimp only
  rw [if_neg (Nat.not_lt.mpr hz)]
  have hr' : Roomy (SetTable.sizeAbove wanted - 1) (es.map (·.1)).size := by rw [Array.size_map, H.size_eq]; exact hr
  obtain ⟨t', order, e, P, hf, hm⟩ := laid_ok (finger := t.finger) (moves := t.movedTo (SetTable.sizeAbove wanted - 1)) (led := t.led) (plain := t.plain) hr' (hashes_small H.walk0 H.small)
  rw [Array.size_map] at P hf
  have P' := order_perm P
  have hsz : (order.filterMap (es[·]?)).size = es.size := by rw [← Array.length_toList, P'.length_eq, Array.length_toList]
  have H' : SetIs (order.filterMap (es[·]?)) t' S := H.anew P' (by rw [hsz]; exact hf)
  have hfill : t'.fill = S.length := by
    have q : t' = { mask := SetTable.sizeAbove wanted - 1, place := t'.place, dummies := #[], finger := t.finger, led := t.led, moves := t.movedTo (SetTable.sizeAbove wanted - 1), plain := t.plain } := by
      unfold SetTable.laid at e
      cases hc : layClean (SetTable.sizeAbove wanted - 1) (es.map (·.1)) with
      | none => rw [hc] at e; cases e
      | some ow => rw [hc] at e; cases e; rfl
    have hp : t'.place.size = es.size := by
      simp only [SetTable.fits, Bool.and_eq_true, beq_iff_eq] at hf; exact hf.1
    rw [q]; show t'.place.size + 0 = _
    rw [hp, H.size_eq, Nat.add_zero]
  refine wpAny_bind ?_
  show wpAny _ _ (match SetTable.laid (SetTable.sizeAbove wanted - 1) t.finger (t.movedTo (SetTable.sizeAbove wanted - 1)) t.led t.plain (es.map (·.1)) with | some (t, order) => _ | _ => _) _ _ _
  rw [e]
  dsimp only
  have hb : ((order.filterMap (es[·]?)).size != es.size) = false := by rw [hsz]; simp
  rw [hb]
  simp only [Bool.false_eq_true, if_false]
  refine wpAny_pure ?_
  dsimp only
  exact wpAny_storeSet_of hg rfl (h _ _ H' hm hfill) H'.fit

end
end Mine

end

section
open PySem PySem.W PyProof.Rows PySem.Calls
namespace Mine
open SetTable (layClean)

theorem SetIs.of_mem {es t R S} (H : SetIs es t R) (hn : S.Nodup) (h : ∀ i, i ∈ R ↔ i ∈ S) : SetIs es t S :=
  H.same ((List.perm_ext_iff_of_nodup H.nodup hn).mpr h)
theorem SetAt.of_mem {h : Heap} {a o R S} (H : SetAt h a o R) (hn : S.Nodup) (e : ∀ i, i ∈ R ↔ i ∈ S) : SetAt h a o S :=
  let ⟨es, ep, t, hg, H⟩ := H; ⟨es, ep, t, hg, H.of_mem hn e⟩
theorem SetAt.nodup {h : Heap} {a o S} (H : SetAt h a o S) : S.Nodup := let ⟨_, _, _, _, H⟩ := H; H.nodup
theorem SetAt.small {h : Heap} {a o S} (H : SetAt h a o S) : ∀ i ∈ S, Sm i := let ⟨_, _, _, _, H⟩ := H; H.small
theorem SetAt.len {h : Heap} {a o S} (H : SetAt h a o S) : S.length ≤ 9 := len_small H.nodup H.small
theorem SetAt.stays {h h' : Heap} {a o S} (H : SetAt h a o S) (k : ∀ b x, h.get? b = some x → h'.get? b = some x) : SetAt h' a o S :=
  let ⟨es, ep, t, hg, H⟩ := H; ⟨es, ep, t, k _ _ hg, H⟩
theorem SetAt.but {h h' : Heap} {a b o S} (H : SetAt h a o S) (k : Heap.SameBut b h h') (hab : a ≠ b) : SetAt h' a o S :=
  let ⟨es, ep, t, hg, H⟩ := H; ⟨es, ep, t, (k.2 a hab).trans hg, H⟩
theorem SetIs.empty {t : SetTable} (hf : t.fits 0 = true) : SetIs #[] t [] := ⟨hf, List.Perm.refl _, fun e he => by simp at he, List.nodup_nil, fun i hi => by simp at hi⟩

theorem above_of {n : Nat} (hn : n ≤ 9) (h5 : 5 ≤ n) : Roomy (SetTable.sizeAbove ((0 + n) * 2) - 1) n ∧ SetTable.sizeAbove ((0 + n) * 2) ≤ sizeLine := by
  have : n = 5 ∨ n = 6 ∨ n = 7 ∨ n = 8 ∨ n = 9 := by omega
  rcases this with rfl | rfl | rfl | rfl | rfl <;> (unfold Roomy; decide +kernel)
theorem grown_of {n : Nat} (hn : n ≤ 9) : Roomy (SetTable.sizeAbove (SetTable.grown n) - 1) n ∧ SetTable.sizeAbove (SetTable.grown n) ≤ sizeLine := by
  have : n = 0 ∨ n = 1 ∨ n = 2 ∨ n = 3 ∨ n = 4 ∨ n = 5 ∨ n = 6 ∨ n = 7 ∨ n = 8 ∨ n = 9 := by omega
  rcases this with rfl | rfl | rfl | rfl | rfl | rfl | rfl | rfl | rfl | rfl <;> (unfold Roomy; decide +kernel)
theorem Roomy.less {m n k : Nat} (h : Roomy m n) (hk : k ≤ n) : Roomy m k := by unfold Roomy at h ⊢; omega

section
variable {prog : Program} {w : World} {A : Around} {E : Value → Shared → Prop} {s : Shared} {a b r : Addr} {o ob : Obj} {es : Array (Int × Value)} {ep : Nat} {t : SetTable} {S : List Int}

theorem merge_fresh {Q : Unit → Shared → Prop} (hg : s.heap.get? r = some { o with data := .set #[] ep t }) (hm : t.mask = 7) (hf : t.fill = 0) (H : SetAt s.heap b ob S) (hne : r ≠ b)
    (h : ∀ h', Heap.SameBut r s.heap h' → SetAt h' r o S → Q () { s with heap := h' }) : wpAny (model prog w) A (setMerge r b) Q E s := by
  have hp0 : t.place.size = 0 := by unfold SetTable.fill at hf; omega
  have H0 : SetIs #[] t [] := .empty (by simp [SetTable.fits, hp0, hf])
  obtain ⟨eo, epo, to, hgo, Ho⟩ := H
  have hne' : (r == b) = false := by simpa using hne
  unfold setMerge
  rw [hne']
  simp only [Bool.false_eq_true, if_false]
  refine wpAny_bind (wpAny_setState_of hgo rfl Ho.fits ?_)
  dsimp only
  split
  · rename_i he
    have he : eo = #[] := by simpa using he
    subst he
    have hS : S = [] := by have := Ho.size_eq; exact List.eq_nil_of_length_eq_zero this.symm
    subst hS
    exact wpAny_pure (h _ (.refl _ _) ⟨_, _, _, hg, H0⟩)
  · have key : ∀ (s' : Shared) (ep' : Nat) (t' : SetTable), s' = { s with heap := s'.heap } → Heap.SameBut r s.heap s'.heap → s'.heap.get? r = some { o with data := .set #[] ep' t' } → t'.fill = 0 → Roomy t'.mask S.length →
        wpAny (model prog w) A (do
          let (_, _, ts) ← setState r
          match ts.road to with
          | .slotForSlot => storeSet r eo { to with finger := ts.finger, led := ts.led && to.led, moves := ts.moves, plain := ts.plain && to.plain }
          | .clean => do
            let (es, t) ← (do
              let some (t, order) := SetTable.laid ts.mask ts.finger ts.moves (led := ts.led && to.led) (plain := ts.plain && to.plain) (eo.map (·.1)) | unsupported "internal:set-table-without-room"
              let es' := order.filterMap (eo[·]?)
              if es'.size != eo.size then unsupported "internal:set-table-lost-an-element"
              pure (es', t) : Sem (Array (Int × Value) × SetTable))
            storeSet r es t
          | .oneByOne => do
            for (h, x) in ← setWalkUnseen b [r] (some r) do
              let _ ← holding [x] (setAddHashed r x h)
              pure ()
              if (← setState b).2.1 != epo then unsupported "set.changed-during-merge") Q E s' := by
      intro s' ep' t' e1 sb hg' hf' hr
      have hp0' : t'.place.size = 0 := by unfold SetTable.fill at hf'; omega
      have H0' : SetIs #[] t' [] := .empty (by simp [SetTable.fits, hp0', hf'])
      refine wpAny_bind (wpAny_setState_of hg' rfl H0'.fits ?_)
      dsimp only
      have hroad : t'.road to = if t'.mask == to.mask && to.dummies.isEmpty then .slotForSlot else .clean := by
        unfold SetTable.road; rw [hf']; rfl
      rw [hroad]
      split
      · rename_i q
        split at q
        · refine wpAny_storeSet_of hg' rfl ?_ Ho.fit
          rw [e1]
          exact h _ (sb.trans (Heap.SameBut.update _ _ _)) ⟨_, _, _, put_at hg' _ _, Ho.table Ho.fits⟩
        · cases q
      · have hr' : Roomy t'.mask (eo.map (·.1)).size := by rw [Array.size_map, Ho.size_eq]; exact hr
        obtain ⟨t2, order, e, P, hf2, _⟩ := laid_ok (finger := t'.finger) (moves := t'.moves) (led := t'.led && to.led) (plain := t'.plain && to.plain) hr' (hashes_small Ho.walk0 Ho.small)
        rw [Array.size_map] at P hf2
        have P' := order_perm P
        have hsz : (order.filterMap (eo[·]?)).size = eo.size := by rw [← Array.length_toList, P'.length_eq, Array.length_toList]
        have H2 : SetIs (order.filterMap (eo[·]?)) t2 S := Ho.anew P' (by rw [hsz]; exact hf2)
        refine wpAny_bind ?_
        rw [e]
        dsimp only
        have hb : ((order.filterMap (eo[·]?)).size != eo.size) = false := by rw [hsz]; simp
        rw [hb]
        simp only [Bool.false_eq_true, if_false]
        refine wpAny_pure ?_
        dsimp only
        refine wpAny_storeSet_of hg' rfl ?_ H2.fit
        rw [e1]
        exact h _ (sb.trans (Heap.SameBut.update _ _ _)) ⟨_, _, _, put_at hg' _ _, H2⟩
      · rename_i q
        split at q <;> cases q
    have hS9 : S.length ≤ 9 := len_small Ho.nodup Ho.small
    refine wpAny_bind ?_
    unfold setRoomFor
    refine wpAny_bind (wpAny_setState_of hg rfl H0.fits ?_)
    have hroom : t.roomFor eo.size = if S.length * 5 ≥ 21 then some ((0 + S.length) * 2) else none := by
      unfold SetTable.roomFor; rw [hf, hm, hp0, Ho.size_eq, Nat.zero_add]
    dsimp only
    rw [hroom]
    split
    · rename_i wanted q
      split at q
      · cases q
        obtain ⟨hr, hz⟩ := above_of hS9 (by omega)
        refine relay_at hg H0 (hr.less (Nat.zero_le _)) hz fun es' t' H' hm' hf' => ?_
        have he : es' = #[] := by have := H'.size_eq; exact Array.eq_empty_of_size_eq_zero this
        subst he
        exact key _ _ t' rfl (Heap.SameBut.update _ _ _) (put_at hg _ _) hf' (by rw [hm']; exact hr)
      · cases q
    · rename_i q
      split at q
      · exact absurd rfl (q _)
      · exact wpAny_pure (key s ep t rfl (.refl _ _) hg hf (by rw [hm]; exact .inl ⟨rfl, by omega⟩))

theorem newSet_at {Q : Value → Shared → Prop}
    (h : ∀ t : SetTable, t.mask = 7 → t.fill = 0 → Q (.ref s.heap.objs.size) { s with heap := s.heap.push { cls := .type "set", dict := none, data := .set #[] 0 t } }) :
    wpAny (model prog w) A (newSet (.type "set")) Q E s := by
  unfold newSet setsByText
  refine wpAny_bind (wpAny_bind (wpAny_askSetting (wpAny_pure ?_)))
  dsimp only
  simp only [newObj]
  exact wpAny_bind (wpAny_alloc (wpAny_pure (h _ rfl rfl)))
end
end Mine

end

section
open PySem PySem.W PyProof.Rows PySem.Calls
open PySem.Builtin.Frozenset
namespace Mine

theorem fits0 {t : SetTable} (hf : t.fill = 0) : t.fits 0 = true := by
  have h1 : t.place.size = 0 := by unfold SetTable.fill at hf; omega
  simp [SetTable.fits, h1, hf]

abbrev plainSet : Obj := { cls := .type "set" }
def SetCls (prog : Program) (w : World) (h : Heap) (o : Obj) : Prop := Looks (model prog w) h (isSubtype o.cls (.type "set")) true
theorem plain_cls {prog w h} : SetCls prog w h plainSet := Looks.of_pure sub_set_self
theorem SetCls.stays {prog w h h' o} (C : SetCls prog w h o) (k : ∀ b x, h.get? b = some x → h'.get? b = some x) : SetCls prog w h' o := Looks.keeps C k

abbrev Stays (h h' : Heap) : Prop := ∀ b x, h.get? b = some x → h'.get? b = some x
theorem Stays.rfl' {h : Heap} : Stays h h := fun _ _ e => e
theorem Stays.trans {h h1 h2 : Heap} (k : Stays h h1) (k' : Stays h1 h2) : Stays h h2 := fun b x e => k' b x (k b x e)
theorem Stays.push {h : Heap} (o : Obj) : Stays h (h.push o) := fun b x e => Heap.get?_push_of_some _ e
theorem Stays.but {h h1 h2 : Heap} {r : Addr} (k : Stays h h1) (sb : Heap.SameBut r h1 h2) (hr : h.get? r = none) : Stays h h2 := fun b x e =>
  (sb.2 b (fun q => by subst q; rw [hr] at e; cases e)).trans (k b x e)
theorem get_size (h : Heap) : h.get? h.objs.size = none := by
  cases q : h.get? h.objs.size with
  | none => rfl
  | some o => exact absurd (Heap.lt_size q) (Nat.lt_irrefl _)
theorem ne_size {h : Heap} {a : Addr} {o : Obj} (e : h.get? a = some o) : a ≠ h.objs.size := fun q => by subst q; rw [get_size] at e; cases e
theorem SetAt.ne_size {h : Heap} {a o S} (H : SetAt h a o S) : a ≠ h.objs.size := let ⟨_, _, _, hg, _⟩ := H; Mine.ne_size hg

section
variable {prog : Program} {w : World} {A : Around} {E : Value → Shared → Prop} {s : Shared} {a b r : Addr} {o ob orr : Obj} {es : Array (Int × Value)} {ep : Nat} {t : SetTable} {S T R : List Int}

theorem isSet_ {Q : Bool → Shared → Prop} (H : SetAt s.heap a o S) (C : SetCls prog w s.heap o) (h : Q true s) : wpAny (model prog w) A (isInstance (.ref a) (.type "set")) Q E s := by
  obtain ⟨es, ep, t, hg, H⟩ := H
  unfold isInstance
  refine wpAny_bind ?_
  show wpAny _ _ (load a >>= fun o => pure o.cls) _ _ _
  exact wpAny_bind (wpAny_load hg (wpAny_pure (C.here h)))

theorem isAny_ {Q : Bool → Shared → Prop} (H : SetAt s.heap a o S) (C : SetCls prog w s.heap o) (h : Q true s) : wpAny (model prog w) A (isAnySet (.ref a)) Q E s := by
  unfold isAnySet
  show wpAny _ _ (isInstance _ _ >>= fun b => _) _ _ _
  exact wpAny_bind (isSet_ H C (wpAny_pure h))

theorem baseOf_ {Q : Value → Shared → Prop} (H : SetAt s.heap a o S) (C : SetCls prog w s.heap o) (h : Q (.type "set") s) : wpAny (model prog w) A (baseOf a) Q E s := by
  unfold baseOf
  exact wpAny_bind (isSet_ H C (wpAny_pure h))

theorem sizeOf_ {Q : Nat → Shared → Prop} (H : SetAt s.heap a o S) (h : Q S.length s) : wpAny (model prog w) A (Builtin.Frozenset.sizeOf a) Q E s := by
  unfold Builtin.Frozenset.sizeOf
  exact wpAny_bind (H.entries fun es t H => wpAny_pure (H.size_eq ▸ h))

theorem copyOf_ {Q : Value → Shared → Prop} (H : SetAt s.heap a o S) (C : SetCls prog w s.heap o)
    (h : ∀ h', Stays s.heap h' → SetAt h' s.heap.objs.size plainSet S → Q (.ref s.heap.objs.size) { s with heap := h' }) : wpAny (model prog w) A (copyOf a) Q E s := by
  unfold copyOf
  refine wpAny_bind (baseOf_ H C ?_)
  refine wpAny_bind (newSet_at fun t hm hf => ?_)
  refine wpAny_bind (wpAny_pure ?_)
  have hne : s.heap.objs.size ≠ a := fun q => H.ne_size q.symm
  refine wpAny_bind (merge_fresh (s := { s with heap := s.heap.push { cls := .type "set", dict := none, data := .set #[] 0 t } }) (o := plainSet) (Heap.get?_push_size _ rfl) hm hf (H.stays (Stays.push _)) hne fun h' sb HS => ?_)
  exact wpAny_pure (h h' (Stays.but (Stays.push _) sb (get_size _)) HS)

theorem epoch_ {id : String} {was : Nat} {Q : Unit → Shared → Prop} (hg : s.heap.get? a = some { o with data := .set es ep t }) (H : SetIs es t S) (e : was = ep) (h : Q () s) :
    wpAny (model prog w) A (unchanged id a was) Q E s := by
  unfold unchanged
  refine wpAny_bind (wpAny_setEpoch_of hg rfl H.fits ?_)
  subst e
  rw [show (was != was) = false by simp]
  exact wpAny_pure h

theorem inter_loop {id : String} {asked walked : Addr} {oa ow : Obj} {W K : List Int} {l : List (Int × Value)} {Q : PUnit → Shared → Prop}
    (Hk : SetAt s.heap asked oa K) (hw : s.heap.get? walked = some { ow with data := .set es ep t }) (Hw : SetIs es t W) (Hr : SetAt s.heap r orr R) (n1 : asked ≠ r) (n2 : walked ≠ r)
    (hl : ∀ e ∈ l, Ent e ∧ Sm e.1)
    (h : ∀ h' R', Heap.SameBut r s.heap h' → SetAt h' r orr R' → (∀ i, i ∈ R' ↔ i ∈ R ∨ (i ∈ l.map (·.1) ∧ i ∈ K)) → Q ⟨⟩ { s with heap := h' }) :
    wpAny (model prog w) A (forIn l PUnit.unit fun x _ => (match x with
      | (h, x) => do
        holding [x] do
          if (← setFind asked x h).isSome then
            let _ ← setAddHashed r x h
        unchanged id walked ep
        pure (ForInStep.yield PUnit.unit) : Sem (ForInStep PUnit))) Q E s := by
  refine wpAny_forIn_list _ (fun rest _ s' => s' = { s with heap := s'.heap } ∧ Heap.SameBut r s.heap s'.heap ∧ (∀ e ∈ rest, Ent e ∧ Sm e.1) ∧ ∃ R', SetAt s'.heap r orr R' ∧ ∀ i, (i ∈ R' ∨ (i ∈ rest.map (·.1) ∧ i ∈ K)) ↔ (i ∈ R ∨ (i ∈ l.map (·.1) ∧ i ∈ K))) _ ?_ ?_ _ _ ⟨rfl, .refl _ _, hl, R, Hr, fun i => Iff.rfl⟩
  · rintro ⟨i, x⟩ rest _ s' ⟨es', sb, hl', R', HR', hR'⟩
    obtain ⟨⟨tk, hx⟩, hsm⟩ := hl' _ (.head _)
    dsimp only at hx hsm
    subst hx
    dsimp only
    refine wpAny_bind (wpAny_holding (wpAny_bind (find_ (Hk.but sb n1) hsm fun rr hrr => ?_)))
    rw [hrr]
    have next : ∀ (h' : Heap) (R2 : List Int) {Qx : ForInStep PUnit → Shared → Prop}, Heap.SameBut r s'.heap h' → SetAt h' r orr R2 → (∀ j, j ∈ R2 ↔ j ∈ R' ∨ (j = i ∧ i ∈ K)) →
        (∀ s'', (s'' = { s with heap := s''.heap } ∧ Heap.SameBut r s.heap s''.heap ∧ (∀ e ∈ rest, Ent e ∧ Sm e.1) ∧ ∃ R', SetAt s''.heap r orr R' ∧ ∀ i, (i ∈ R' ∨ (i ∈ rest.map (·.1) ∧ i ∈ K)) ↔ (i ∈ R ∨ (i ∈ l.map (·.1) ∧ i ∈ K))) → Qx (.yield ⟨⟩) s'') →
        wpAny (model prog w) A (unchanged id walked ep >>= fun _ => pure (ForInStep.yield PUnit.unit)) Qx E { s' with heap := h' } := by
      intro h' R2 Qx sb2 HR2 hm2 hQx
      refine wpAny_bind (epoch_ (s := { s' with heap := h' }) ((sb2.2 _ n2).trans ((sb.2 _ n2).trans hw)) Hw rfl (wpAny_pure (hQx _ ⟨?_, sb.trans sb2, fun e he => hl' e (.tail _ he), R2, HR2, fun j => ?_⟩)))
      · rw [es']
      · rw [hm2, ← hR' j, List.map_cons, List.mem_cons]
        constructor
        · rintro ((h | ⟨rfl, h⟩) | h)
          · exact .inl h
          · exact .inr ⟨.inl rfl, h⟩
          · exact .inr ⟨.inr h.1, h.2⟩
        · rintro (h | ⟨rfl | h, hk⟩)
          · exact .inl (.inl h)
          · exact .inl (.inr ⟨rfl, hk⟩)
          · exact .inr ⟨h, hk⟩
    by_cases hk : i ∈ K
    · simp only [hk, decide_true, if_true]
      refine wpAny_bind (add_ HR' hsm fun h' sb2 HR2 => wpAny_pure ?_)
      refine next h' _ sb2 HR2 (fun j => ?_) fun s'' z => z
      split
      · rename_i hi
        exact ⟨.inl, fun h => h.elim _root_.id fun h => h.1 ▸ hi⟩
      · simp [hk]
    · simp only [hk, decide_false, Bool.false_eq_true, if_false]
      exact wpAny_pure (next s'.heap R' (.refl _ _) HR' (fun j => ⟨.inl, fun h => h.elim _root_.id fun h => absurd h.2 hk⟩) fun s'' z => z)
  · rintro _ s' ⟨es', sb, _, R', HR', hR'⟩
    rw [es']
    exact h _ R' sb HR' fun i => by rw [← hR' i]; simp

theorem Walks.ok {es : Array (Int × Value)} (W : Walks es S) (hs : ∀ i ∈ S, Sm i) : ∀ e ∈ es.toList, Ent e ∧ Sm e.1 :=
  fun e he => ⟨W.ent e he, hs _ (W.perm.mem_iff.mp (List.mem_map_of_mem he))⟩

theorem inter_set {id : String} {Q : Value → Shared → Prop} (H : SetAt s.heap a o S) (H2 : SetAt s.heap b ob T) (C : SetCls prog w s.heap o) (C2 : SetCls prog w s.heap ob)
    (h : ∀ h' R, Stays s.heap h' → SetAt h' s.heap.objs.size plainSet R → (∀ i, i ∈ R ↔ i ∈ S ∧ i ∈ T) → Q (.ref s.heap.objs.size) { s with heap := h' }) : wpAny (model prog w) A (intersection id a (.ref b)) Q E s := by
  unfold intersection
  by_cases hab : b = a
  · subst hab
    rw [show (Value.ref b == Value.ref b) = true by simp]
    simp only [if_true]
    have : ∀ i, i ∈ S ↔ i ∈ T := by
      obtain ⟨es, ep, t, hg, H⟩ := H
      obtain ⟨es', ep', t', hg', H'⟩ := H2
      rw [hg] at hg'
      simp only [Option.some.injEq, Obj.mk.injEq, Data.set.injEq] at hg'
      obtain ⟨_, _, ⟨rfl, rfl, rfl⟩, _⟩ := hg'
      exact fun i => H.perm.mem_iff.symm.trans H'.perm.mem_iff
    exact copyOf_ H C fun h' k HS => h h' S k HS fun i => ⟨fun q => ⟨q, (this i).mp q⟩, fun q => q.1⟩
  · rw [show (Value.ref b == Value.ref a) = false by simpa using hab]
    simp only [Bool.false_eq_true, if_false]
    refine wpAny_bind (baseOf_ H C (wpAny_bind (newSet_at fun t hm hf => wpAny_bind (wpAny_pure ?_))))
    have k1 := Stays.push (h := s.heap) { cls := .type "set", dict := none, data := .set #[] 0 t }
    have hrg := Heap.get?_push_size s.heap (o := { cls := .type "set", dict := none, data := .set #[] 0 t }) rfl
    generalize s.heap.push { cls := .type "set", dict := none, data := .set #[] 0 t } = h1 at k1 hrg ⊢
    have Hr : SetAt h1 s.heap.objs.size plainSet [] := ⟨_, _, _, hrg, .empty (fits0 hf)⟩
    refine wpAny_bind (wpAny_holding (wpAny_bind (isAny_ (s := { s with heap := h1 }) (H2.stays k1) (C2.stays k1) ?_)))
    simp only [if_true]
    refine wpAny_bind (wpAny_pure (wpAny_bind (sizeOf_ (s := { s with heap := h1 }) (H2.stays k1) (wpAny_bind (sizeOf_ (s := { s with heap := h1 }) (H.stays k1) ?_)))))
    have go : ∀ (asked walked : Addr) (oa ow : Obj) (K W : List Int), SetAt s.heap asked oa K → SetAt s.heap walked ow W → (∀ i, i ∈ W ∧ i ∈ K ↔ i ∈ S ∧ i ∈ T) →
        wpAny (model prog w) A (do
          let was ← setEpoch walked
          for (h, x) in ← setWalkUnseen walked [asked, s.heap.objs.size] (some s.heap.objs.size) do
            holding [x] do
              if (← setFind asked x h).isSome then
                let _ ← setAddHashed s.heap.objs.size x h
            unchanged id walked was) (fun _ s' => wpAny (model prog w) A (pure (Value.ref s.heap.objs.size)) Q E s') E { s with heap := h1 } := by
      intro asked walked oa ow K W Hk Hw hiff
      have Hw1 := Hw.stays k1
      have Hk1 := Hk.stays k1
      have n1 := Hk.ne_size
      have n2 := Hw.ne_size
      obtain ⟨es, ep, t', hgw, HW⟩ := Hw1
      refine wpAny_bind (wpAny_setEpoch_of hgw rfl HW.fits ?_)
      refine wpAny_bind (unseen1 (s := { s with heap := h1 }) (o := ow) (S := W) ⟨es, ep, t', hgw, HW⟩ (fun b hb => ?_) Hr fun es2 h2 Wk sb Hr2 => ?_)
      · simp only [List.mem_cons, List.not_mem_nil, or_false] at hb
        rcases hb with rfl | rfl
        · exact ⟨_, _, Hk1⟩
        · exact ⟨_, _, Hr⟩
      · rw [← Array.forIn_toList]
        refine wpAny_bind (inter_loop (s := { s with heap := h2 }) (Hk1.but sb n1) ((sb.2 _ n2).trans hgw) HW Hr2 n1 n2 (Wk.ok HW.small) fun h3 R sb3 HR hR => wpAny_pure (wpAny_pure ?_))
        refine h h3 R (Stays.but k1 (sb.trans sb3) (get_size _)) HR fun i => ?_
        rw [hR i, ← hiff i]
        simp [Wk.perm.mem_iff]
    split
    · exact go b a ob o T S H2 H fun i => Iff.rfl
    · exact go a b o ob S T H H2 fun i => And.comm
end
end Mine

end

section
open PySem PySem.W PyProof.Rows PySem.Calls
open PySem.Builtin.Frozenset
namespace Mine

theorem fits_iff {t : SetTable} {n : Nat} : t.fits n = true ↔ t.place.size = n ∧ t.place.size + t.dummies.size ≤ t.mask := by
  unfold SetTable.fits SetTable.fill
  rw [Bool.and_eq_true, beq_iff_eq]
  exact and_congr_right fun _ => ⟨of_decide_eq_true, decide_eq_true⟩

theorem SetTable.drop_fits {t : SetTable} {n i : Nat} (hf : t.fits n = true) (hi : i < n) : (t.drop i).fits (n - 1) = true := by
  rw [fits_iff] at hf
  obtain ⟨h1, h2⟩ := hf
  have hlt : i < t.place.size := by omega
  have e : t.drop i = { t with place := SetTable.eraseAt t.place i, dummies := SetTable.insertAt t.dummies (SetTable.below t.dummies t.place[i]) t.place[i] } := by
    unfold SetTable.drop; rw [Array.getElem?_eq_getElem hlt]
  rw [e, fits_iff]
  have e1 : (SetTable.eraseAt t.place i).size = n - 1 := by
    simp only [SetTable.eraseAt, Array.size_append, Array.size_extract]; omega
  have e2 : ∀ (p : Nat) (x : Nat), (SetTable.insertAt t.dummies p x).size = t.dummies.size + 1 := fun p x => by
    have := (SetTable.insertAt_perm t.dummies p x).length_eq
    simpa using this
  show (SetTable.eraseAt t.place i).size = n - 1 ∧ (SetTable.eraseAt t.place i).size + (SetTable.insertAt t.dummies _ _).size ≤ t.mask
  rw [e1, e2]
  exact ⟨rfl, by omega⟩

theorem toList_eraseAt {α : Type} (xs : Array α) (i : Nat) : (SetTable.eraseAt xs i).toList = xs.toList.take i ++ xs.toList.drop (i + 1) := by
  simp [SetTable.eraseAt, List.extract_eq_take_drop, List.take_of_length_le]

theorem SetIs.erase {es : Array (Int × Value)} {t : SetTable} {S : List Int} (H : SetIs es t S) {i : Int} {j : Nat} {e : Int × Value} (he : es[j]? = some e) (hi : e.1 = i) : SetIs (SetTable.eraseAt es j) (t.drop j) (S.filter (· != i)) := by
  obtain ⟨hlt, hej⟩ := Array.getElem?_eq_some_iff.mp he
  have hsz : (SetTable.eraseAt es j).size = es.size - 1 := by simp only [SetTable.eraseAt, Array.size_append, Array.size_extract]; omega
  have hlt' : j < es.toList.length := by rw [Array.length_toList]; exact hlt
  have split_ : es.toList = es.toList.take j ++ e :: es.toList.drop (j + 1) := by
    have : es.toList[j] = e := by rw [Array.getElem_toList]; exact hej
    rw [← this, ← List.drop_eq_getElem_cons hlt', List.take_append_drop]
  have P := H.perm
  rw [split_, List.map_append, List.map_cons, hi] at P
  have nd := P.nodup_iff.mpr H.nodup
  have nd' := (List.nodup_append.mp nd)
  have n1 : ∀ x ∈ (es.toList.take j).map (·.1), x ≠ i := fun x hx => nd'.2.2 x hx i (.head _)
  have n2 : ∀ x ∈ (es.toList.drop (j + 1)).map (·.1), x ≠ i := fun x hx q => by subst q; exact (List.nodup_cons.mp nd'.2.1).1 hx
  refine ⟨by rw [hsz]; exact SetTable.drop_fits H.fits hlt, ?_, fun x hx => ?_, H.nodup.filter _, fun x hx => H.small x (List.mem_filter.mp hx).1⟩
  · have := P.filter (· != i)
    rw [List.filter_append, List.filter_cons] at this
    simp only [bne_self_eq_false, Bool.false_eq_true, if_false] at this
    rw [List.filter_eq_self.mpr (fun x hx => by simpa using n1 x hx), List.filter_eq_self.mpr (fun x hx => by simpa using n2 x hx)] at this
    rw [toList_eraseAt, List.map_append]
    exact this
  · rw [toList_eraseAt] at hx
    refine H.ent x ?_
    rw [split_]
    rcases List.mem_append.mp hx with h | h
    · exact List.mem_append_left _ h
    · exact List.mem_append_right _ (.tail _ h)

section
variable {prog : Program} {w : World} {A : Around} {E : Value → Shared → Prop} {s : Shared} {a b r : Addr} {o ob orr : Obj} {es : Array (Int × Value)} {ep : Nat} {t : SetTable} {S T R : List Int}

theorem discard_ {i : Int} {tk : Tok} {Q : Bool → Shared → Prop} (H : SetAt s.heap a o S) (hi : Sm i)
    (h : ∀ h', Heap.SameBut a s.heap h' → SetAt h' a o (S.filter (· != i)) → Q (decide (i ∈ S)) { s with heap := h' }) : wpAny (model prog w) A (setDiscardHashed a (.int i tk) i) Q E s := by
  obtain ⟨es, ep, t, hg, H⟩ := H
  unfold setDiscardHashed
  refine wpAny_bind (find_idx hg H hi fun r hr hj => ?_)
  cases r with
  | none =>
    have hm : i ∉ S := by simpa using hr.symm
    have := h s.heap (.refl _ _) ⟨es, ep, t, hg, by rw [List.filter_eq_self.mpr (fun x hx => by simp; rintro rfl; exact hm hx)]; exact H⟩
    rw [show decide (i ∈ S) = false by simpa using hm] at this
    exact wpAny_pure this
  | some j =>
    have hm : i ∈ S := by simpa using hr.symm
    obtain ⟨e, he, hei⟩ := hj j rfl
    dsimp only
    refine wpAny_bind (wpAny_setState_of hg rfl H.fits ?_)
    dsimp only
    have H' := H.erase he hei
    refine wpAny_bind (wpAny_storeSet_of hg rfl (wpAny_bind (wpAny_point (wpAny_pure ?_))) H'.fit)
    rw [show true = decide (i ∈ S) by simpa using hm]
    exact h _ (Heap.SameBut.update _ _ _) ⟨_, _, _, put_at hg _ _, H'⟩

theorem tidy_ {Q : Unit → Shared → Prop} (H : SetAt s.heap a o S) (h : ∀ h', Heap.SameBut a s.heap h' → SetAt h' a o S → Q () { s with heap := h' }) : wpAny (model prog w) A (setTidy a) Q E s := by
  have hl := H.len
  obtain ⟨es, ep, t, hg, H⟩ := H
  unfold setTidy
  refine wpAny_bind (wpAny_setState_of hg rfl H.fits ?_)
  dsimp only
  split
  · rw [H.size_eq]
    obtain ⟨hr, hz⟩ := grown_of hl
    exact relay_at hg H hr hz fun es' t' H' _ _ => h _ (Heap.SameBut.update _ _ _) ⟨_, _, _, put_at hg _ _, H'⟩
  · exact wpAny_pure (h s.heap (.refl _ _) ⟨_, _, _, hg, H⟩)

theorem drop_loop {id : String} {ow : Obj} {W : List Int} {l : List (Int × Value)} {Q : PUnit → Shared → Prop}
    (hw : s.heap.get? b = some { ow with data := .set es ep t }) (Hw : SetIs es t W) (Hr : SetAt s.heap r orr R) (n2 : b ≠ r) (hl : ∀ e ∈ l, Ent e ∧ Sm e.1)
    (h : ∀ h' R', Heap.SameBut r s.heap h' → SetAt h' r orr R' → (∀ i, i ∈ R' ↔ i ∈ R ∧ i ∉ l.map (·.1)) → Q ⟨⟩ { s with heap := h' }) :
    wpAny (model prog w) A (forIn l PUnit.unit fun x _ => (match x with
      | (h, x) => do
        let _ ← holding [x] (setDiscardHashed r x h)
        unchanged id b ep
        pure (ForInStep.yield PUnit.unit) : Sem (ForInStep PUnit))) Q E s := by
  refine wpAny_forIn_list _ (fun rest _ s' => s' = { s with heap := s'.heap } ∧ Heap.SameBut r s.heap s'.heap ∧ (∀ e ∈ rest, Ent e ∧ Sm e.1) ∧ ∃ R', SetAt s'.heap r orr R' ∧ ∀ i, (i ∈ R' ∧ i ∉ rest.map (·.1)) ↔ (i ∈ R ∧ i ∉ l.map (·.1))) _ ?_ ?_ _ _ ⟨rfl, .refl _ _, hl, R, Hr, fun i => Iff.rfl⟩
  · rintro ⟨i, x⟩ rest _ s' ⟨es', sb, hl', R', HR', hR'⟩
    obtain ⟨⟨tk, hx⟩, hsm⟩ := hl' _ (.head _)
    dsimp only at hx hsm
    subst hx
    dsimp only
    refine wpAny_bind (wpAny_holding (discard_ HR' hsm fun h' sb2 HR2 => ?_))
    refine wpAny_bind (epoch_ (s := { s' with heap := h' }) ((sb2.2 _ n2).trans ((sb.2 _ n2).trans hw)) Hw rfl (wpAny_pure ⟨?_, sb.trans sb2, fun e he => hl' e (.tail _ he), _, HR2, fun j => ?_⟩))
    · rw [es']
    · rw [← hR' j, List.mem_filter, List.map_cons, List.mem_cons]
      simp only [bne_iff_ne, ne_eq, not_or]
      exact ⟨fun ⟨⟨h1, h2⟩, h3⟩ => ⟨h1, h2, h3⟩, fun ⟨h1, h2, h3⟩ => ⟨⟨h1, h2⟩, h3⟩⟩
  · rintro _ s' ⟨es', sb, _, R', HR', hR'⟩
    rw [es']
    exact h _ R' sb HR' fun i => by rw [← hR' i]; simp

theorem diffUpd_ {id : String} {Q : Unit → Shared → Prop} (H : SetAt s.heap a o S) (H2 : SetAt s.heap b ob T) (C2 : SetCls prog w s.heap ob) (hab : b ≠ a) (hsz : T.length / 8 ≤ S.length)
    (h : ∀ h' R, Heap.SameBut a s.heap h' → SetAt h' a o R → (∀ i, i ∈ R ↔ i ∈ S ∧ i ∉ T) → Q () { s with heap := h' }) : wpAny (model prog w) A (differenceUpdate id a (.ref b)) Q E s := by
  unfold differenceUpdate
  rw [show (Value.ref b == Value.ref a) = false by simpa using hab]
  simp only [Bool.false_eq_true, if_false]
  refine wpAny_bind (isAny_ H2 C2 ?_)
  simp only [if_true]
  refine wpAny_bind (wpAny_pure (wpAny_bind (sizeOf_ H2 (wpAny_bind (sizeOf_ H ?_)))))
  rw [if_neg (by omega)]
  have H2' := H2
  obtain ⟨es, ep, t, hg, HT⟩ := H2
  refine wpAny_bind (wpAny_setEpoch_of hg rfl HT.fits ?_)
  refine wpAny_bind (wpAny_holding (wpAny_bind (unseen0 H2' (fun c hc => ?_) fun es2 Wk => ?_)))
  · simp only [List.mem_cons, List.not_mem_nil, or_false] at hc
    subst hc
    exact ⟨_, _, H⟩
  · rw [← Array.forIn_toList]
    refine wpAny_bind (drop_loop hg HT H hab (Wk.ok HT.small) fun h3 R sb HR hR => wpAny_pure ?_)
    refine tidy_ (s := { s with heap := h3 }) HR fun h4 sb4 HR4 => ?_
    exact h h4 R (sb.trans sb4) HR4 fun i => by rw [hR i]; simp [Wk.perm.mem_iff]
end
end Mine

end

section
open PySem PySem.W PyProof.Rows PySem.Calls
open PySem.Builtin.Frozenset
namespace Mine

section
variable {prog : Program} {w : World} {A : Around} {E : Value → Shared → Prop} {s : Shared} {a b r : Addr} {o ob orr : Obj} {es : Array (Int × Value)} {ep : Nat} {t : SetTable} {S T R : List Int}

theorem keep_loop {id : String} {other : Addr} {oa ow : Obj} {W K : List Int} {l : List (Int × Value)} {Q : PUnit → Shared → Prop}
    (Hk : SetAt s.heap other oa K) (hw : s.heap.get? b = some { ow with data := .set es ep t }) (Hw : SetIs es t W) (Hr : SetAt s.heap r orr R) (n1 : other ≠ r) (n2 : b ≠ r)
    (hl : ∀ e ∈ l, Ent e ∧ Sm e.1)
    (h : ∀ h' R', Heap.SameBut r s.heap h' → SetAt h' r orr R' → (∀ i, i ∈ R' ↔ i ∈ R ∨ (i ∈ l.map (·.1) ∧ i ∉ K)) → Q ⟨⟩ { s with heap := h' }) :
    wpAny (model prog w) A (forIn l PUnit.unit fun x _ => (match x with
      | (h, x) => do
        holding [x] do
          let there ← pure (← setFind other x h).isSome
          if !there then
            let _ ← setAddHashed r x h
        unchanged id b ep
        pure (ForInStep.yield PUnit.unit) : Sem (ForInStep PUnit))) Q E s := by
  refine wpAny_forIn_list _ (fun rest _ s' => s' = { s with heap := s'.heap } ∧ Heap.SameBut r s.heap s'.heap ∧ (∀ e ∈ rest, Ent e ∧ Sm e.1) ∧ ∃ R', SetAt s'.heap r orr R' ∧ ∀ i, (i ∈ R' ∨ (i ∈ rest.map (·.1) ∧ i ∉ K)) ↔ (i ∈ R ∨ (i ∈ l.map (·.1) ∧ i ∉ K))) _ ?_ ?_ _ _ ⟨rfl, .refl _ _, hl, R, Hr, fun i => Iff.rfl⟩
  · rintro ⟨i, x⟩ rest _ s' ⟨es', sb, hl', R', HR', hR'⟩
    obtain ⟨⟨tk, hx⟩, hsm⟩ := hl' _ (.head _)
    dsimp only at hx hsm
    subst hx
    dsimp only
    refine wpAny_bind (wpAny_holding (wpAny_bind (find_ (Hk.but sb n1) hsm fun rr hrr => wpAny_bind (wpAny_pure ?_))))
    rw [hrr]
    have next : ∀ (h' : Heap) (R2 : List Int) {Qx : ForInStep PUnit → Shared → Prop}, Heap.SameBut r s'.heap h' → SetAt h' r orr R2 → (∀ j, j ∈ R2 ↔ j ∈ R' ∨ (j = i ∧ i ∉ K)) →
        (∀ s'', (s'' = { s with heap := s''.heap } ∧ Heap.SameBut r s.heap s''.heap ∧ (∀ e ∈ rest, Ent e ∧ Sm e.1) ∧ ∃ R', SetAt s''.heap r orr R' ∧ ∀ i, (i ∈ R' ∨ (i ∈ rest.map (·.1) ∧ i ∉ K)) ↔ (i ∈ R ∨ (i ∈ l.map (·.1) ∧ i ∉ K))) → Qx (.yield ⟨⟩) s'') →
        wpAny (model prog w) A (unchanged id b ep >>= fun _ => pure (ForInStep.yield PUnit.unit)) Qx E { s' with heap := h' } := by
      intro h' R2 Qx sb2 HR2 hm2 hQx
      refine wpAny_bind (epoch_ (s := { s' with heap := h' }) ((sb2.2 _ n2).trans ((sb.2 _ n2).trans hw)) Hw rfl (wpAny_pure (hQx _ ⟨?_, sb.trans sb2, fun e he => hl' e (.tail _ he), R2, HR2, fun j => ?_⟩)))
      · rw [es']
      · rw [hm2, ← hR' j, List.map_cons, List.mem_cons]
        constructor
        · rintro ((h | ⟨rfl, h⟩) | h)
          · exact .inl h
          · exact .inr ⟨.inl rfl, h⟩
          · exact .inr ⟨.inr h.1, h.2⟩
        · rintro (h | ⟨rfl | h, hk⟩)
          · exact .inl (.inl h)
          · exact .inl (.inr ⟨rfl, hk⟩)
          · exact .inr ⟨h, hk⟩
    by_cases hk : i ∈ K
    · simp only [hk, decide_true, Bool.not_true, Bool.false_eq_true, if_false]
      exact wpAny_pure (next s'.heap R' (.refl _ _) HR' (fun j => ⟨.inl, fun h => h.elim _root_.id fun h => absurd hk h.2⟩) fun s'' z => z)
    · simp only [hk, decide_false, Bool.not_false, if_true]
      refine wpAny_bind (add_ HR' hsm fun h' sb2 HR2 => wpAny_pure ?_)
      refine next h' _ sb2 HR2 (fun j => ?_) fun s'' z => z
      split
      · rename_i hi
        exact ⟨.inl, fun h => h.elim _root_.id fun h => h.1 ▸ hi⟩
      · simp [hk]
  · rintro _ s' ⟨es', sb, _, R', HR', hR'⟩
    rw [es']
    exact h _ R' sb HR' fun i => by rw [← hR' i]; simp

theorem diff_set {id : String} {Q : Value → Shared → Prop} (H : SetAt s.heap a o S) (H2 : SetAt s.heap b ob T) (C : SetCls prog w s.heap o) (C2 : SetCls prog w s.heap ob)
    (h : ∀ h' R, Stays s.heap h' → SetAt h' s.heap.objs.size plainSet R → (∀ i, i ∈ R ↔ i ∈ S ∧ i ∉ T) → Q (.ref s.heap.objs.size) { s with heap := h' }) : wpAny (model prog w) A (difference id a (.ref b)) Q E s := by
  unfold difference
  dsimp only
  refine wpAny_bind (isAny_ H2 C2 ?_)
  simp only [Bool.not_true, Bool.false_eq_true, if_false, Bool.false_and, if_true]
  refine wpAny_bind (wpAny_pure (wpAny_bind (sizeOf_ H2 (wpAny_bind (sizeOf_ H ?_)))))
  have hT := H2.len
  have hS := H.len
  split
  · rename_i hlt
    refine wpAny_bind (wpAny_rule ?_)
    refine wpAny_bind (copyOf_ H C fun h1 k1 HC => ?_)
    have hne : b ≠ s.heap.objs.size := H2.ne_size
    refine wpAny_bind (wpAny_pure (wpAny_bind (wpAny_holding ?_)))
    refine diffUpd_ (s := { s with heap := h1 }) HC (H2.stays k1) (C2.stays k1) hne (by omega) fun h2 R sb HR hR => ?_
    exact wpAny_pure (h h2 R (Stays.but k1 sb (get_size _)) HR hR)
  · refine wpAny_bind (baseOf_ H C (wpAny_bind (newSet_at fun t hm hf => wpAny_bind (wpAny_pure ?_))))
    have k1 := Stays.push (h := s.heap) { cls := .type "set", dict := none, data := .set #[] 0 t }
    have hrg := Heap.get?_push_size s.heap (o := { cls := .type "set", dict := none, data := .set #[] 0 t }) rfl
    generalize s.heap.push { cls := .type "set", dict := none, data := .set #[] 0 t } = h1 at k1 hrg ⊢
    have Hr : SetAt h1 s.heap.objs.size plainSet [] := ⟨_, _, _, hrg, .empty (fits0 hf)⟩
    have Hw1 := H.stays k1
    have Hk1 := H2.stays k1
    have n1 := H2.ne_size
    have n2 := H.ne_size
    obtain ⟨es, ep, t', hgw, HW⟩ := Hw1
    refine wpAny_bind (wpAny_setEpoch_of hgw rfl HW.fits (wpAny_bind (wpAny_holding ?_)))
    refine wpAny_bind (unseen1 (s := { s with heap := h1 }) (o := o) (S := S) ⟨es, ep, t', hgw, HW⟩ (fun b hb => ?_) Hr fun es2 h2 Wk sb Hr2 => ?_)
    · simp only [List.mem_cons, List.not_mem_nil, or_false] at hb
      rcases hb with rfl | rfl
      · exact ⟨_, _, Hk1⟩
      · exact ⟨_, _, Hr⟩
    · rw [← Array.forIn_toList]
      refine wpAny_bind (keep_loop (s := { s with heap := h2 }) (Hk1.but sb n1) ((sb.2 _ n2).trans hgw) HW Hr2 n1 n2 (Wk.ok HW.small) fun h3 R sb3 HR hR => wpAny_pure (wpAny_pure ?_))
      refine h h3 R (Stays.but k1 (sb.trans sb3) (get_size _)) HR fun i => ?_
      rw [hR i]
      simp [Wk.perm.mem_iff]

theorem deaths_ {Q : Bool → Shared → Prop} (hg : s.heap.get? a = some { o with data := .set es ep t }) (H : SetIs es t S) (h : Q (w.params.followText "set-order" || (t.led && t.plain) || decide (es.size ≤ 1)) s) : wpAny (model prog w) A (setDeathsKnown a) Q E s := by
  unfold setDeathsKnown
  refine wpAny_bind (wpAny_setState_of hg rfl H.fits ?_)
  dsimp only
  exact wpAny_bind (byText_ (wpAny_pure h))

theorem takeOver_ {Q : Unit → Shared → Prop} (H : SetAt s.heap a o S) (HR : SetAt s.heap r orr R) (h : ∀ h', Heap.SameBut a s.heap h' → SetAt h' a o R → Q () { s with heap := h' }) : wpAny (model prog w) A (takeOver a r) Q E s := by
  unfold takeOver
  obtain ⟨es, ep, t, hg, H⟩ := H
  obtain ⟨er, epr, tr, hgr, HR⟩ := HR
  have fin : ∀ (old : Option (List Value)) (t' : SetTable), t'.fits er.size = true → wpAny (model prog w) A (do storeSet a er t'; pure old) (fun old s' => wpAny (model prog w) A (match old with
    | some old => letGo (old.filter fun | .ref _ => true | _ => false)
    | none => point) Q E s') E s := fun old t' hf => by
    refine wpAny_bind (wpAny_storeSet_of hg rfl (wpAny_pure ?_) HR.fit)
    have := h _ (Heap.SameBut.update _ _ _) ⟨_, _, _, put_at hg er t', HR.table hf⟩
    cases old with
    | none => exact wpAny_point this
    | some old => exact wpAny_letGo this
  refine wpAny_bind ?_
  unfold setSwap
  refine wpAny_bind (deaths_ hg H ?_)
  split
  · rename_i hc
    refine wpAny_bind (wpAny_bind ?_)
    refine walk_ hg H hc fun es' W => wpAny_pure (wpAny_bind (wpAny_pure ?_))
    refine wpAny_bind (wpAny_setState_of hgr rfl HR.fits ?_)
    dsimp only
    refine wpAny_bind (wpAny_setState_of hg rfl H.fits ?_)
    exact fin _ _ HR.fits
  · refine wpAny_bind (wpAny_pure ?_)
    refine wpAny_bind (wpAny_setState_of hgr rfl HR.fits ?_)
    dsimp only
    refine wpAny_bind (wpAny_setState_of hg rfl H.fits ?_)
    exact fin _ _ HR.fits

theorem flip_loop {id : String} {ow : Obj} {W : List Int} {l : List (Int × Value)} {Q : PUnit → Shared → Prop}
    (hw : s.heap.get? b = some { ow with data := .set es ep t }) (Hw : SetIs es t W) (Hr : SetAt s.heap r orr R) (n2 : b ≠ r) (hl : ∀ e ∈ l, Ent e ∧ Sm e.1) (nd : (l.map (·.1)).Nodup)
    (h : ∀ h' R', Heap.SameBut r s.heap h' → SetAt h' r orr R' → (∀ i, i ∈ R' ↔ (i ∈ R ∧ i ∉ l.map (·.1)) ∨ (i ∉ R ∧ i ∈ l.map (·.1))) → Q ⟨⟩ { s with heap := h' }) :
    wpAny (model prog w) A (forIn l PUnit.unit fun x _ => (match x with
      | (h, x) => do
        holding [x] do
          if !(← setDiscardHashed r x h) then
            let _ ← setAddHashed r x h
        unchanged id b ep
        pure (ForInStep.yield PUnit.unit) : Sem (ForInStep PUnit))) Q E s := by
  refine wpAny_forIn_list _ (fun rest _ s' => s' = { s with heap := s'.heap } ∧ Heap.SameBut r s.heap s'.heap ∧ (∀ e ∈ rest, Ent e ∧ Sm e.1) ∧ (rest.map (·.1)).Nodup ∧ ∃ R', SetAt s'.heap r orr R' ∧
    ∀ i, ((i ∈ R' ∧ i ∉ rest.map (·.1)) ∨ (i ∉ R' ∧ i ∈ rest.map (·.1))) ↔ ((i ∈ R ∧ i ∉ l.map (·.1)) ∨ (i ∉ R ∧ i ∈ l.map (·.1)))) _ ?_ ?_ _ _ ⟨rfl, .refl _ _, hl, nd, R, Hr, fun i => Iff.rfl⟩
  · rintro ⟨i, x⟩ rest _ s' ⟨es', sb, hl', nd', R', HR', hR'⟩
    obtain ⟨⟨tk, hx⟩, hsm⟩ := hl' _ (.head _)
    dsimp only at hx hsm
    subst hx
    rw [List.map_cons, List.nodup_cons] at nd'
    dsimp only
    have next : ∀ (h' : Heap) (R2 : List Int) {Qx : ForInStep PUnit → Shared → Prop}, Heap.SameBut r s'.heap h' → SetAt h' r orr R2 → (∀ j, j ∈ R2 ↔ (j ∈ R' ∧ j ≠ i) ∨ (i ∉ R' ∧ j = i)) →
        (∀ s'', (s'' = { s with heap := s''.heap } ∧ Heap.SameBut r s.heap s''.heap ∧ (∀ e ∈ rest, Ent e ∧ Sm e.1) ∧ (rest.map (·.1)).Nodup ∧ ∃ R', SetAt s''.heap r orr R' ∧
          ∀ i, ((i ∈ R' ∧ i ∉ rest.map (·.1)) ∨ (i ∉ R' ∧ i ∈ rest.map (·.1))) ↔ ((i ∈ R ∧ i ∉ l.map (·.1)) ∨ (i ∉ R ∧ i ∈ l.map (·.1)))) → Qx (.yield ⟨⟩) s'') →
        wpAny (model prog w) A (unchanged id b ep >>= fun _ => pure (ForInStep.yield PUnit.unit)) Qx E { s' with heap := h' } := by
      intro h' R2 Qx sb2 HR2 hm2 hQx
      refine wpAny_bind (epoch_ (s := { s' with heap := h' }) ((sb2.2 _ n2).trans ((sb.2 _ n2).trans hw)) Hw rfl (wpAny_pure (hQx _ ⟨?_, sb.trans sb2, fun e he => hl' e (.tail _ he), nd'.2, R2, HR2, fun j => ?_⟩)))
      · rw [es']
      · rw [hm2, ← hR' j, List.map_cons, List.mem_cons]
        by_cases hj : j = i
        · subst hj
          have := nd'.1
          simp [this]
        · simp [hj]
    refine wpAny_bind (wpAny_holding (wpAny_bind (discard_ HR' hsm fun h1 sb1 HR1 => ?_)))
    by_cases hk : i ∈ R'
    · simp only [hk, decide_true, Bool.not_true, Bool.false_eq_true, if_false]
      exact wpAny_pure (next h1 _ sb1 HR1 (fun j => by simp [List.mem_filter, hk]) fun s'' z => z)
    · simp only [hk, decide_false, Bool.not_false, if_true]
      refine wpAny_bind (add_ (s := { s' with heap := h1 }) HR1 hsm fun h2 sb2 HR2 => wpAny_pure ?_)
      rw [if_neg (by simp)] at HR2
      exact next h2 _ (sb1.trans sb2) HR2 (fun j => by simp [List.mem_filter, hk]) fun s'' z => z
  · rintro _ s' ⟨es', sb, _, _, R', HR', hR'⟩
    rw [es']
    exact h _ R' sb HR' fun i => by rw [← hR' i]; simp

theorem symUpd_ {id : String} {Q : Unit → Shared → Prop} (H : SetAt s.heap a o S) (H2 : SetAt s.heap b ob T) (C2 : SetCls prog w s.heap ob) (hnd : (ob.cls == .type "dict") = false) (hab : b ≠ a)
    (h : ∀ h' R, Heap.SameBut a s.heap h' → SetAt h' a o R → (∀ i, i ∈ R ↔ (i ∈ S ∧ i ∉ T) ∨ (i ∉ S ∧ i ∈ T)) → Q () { s with heap := h' }) : wpAny (model prog w) A (symmetricDifferenceUpdate id a (.ref b)) Q E s := by
  unfold symmetricDifferenceUpdate
  rw [show (Value.ref b == Value.ref a) = false by simpa using hab]
  simp only [Bool.false_eq_true, if_false]
  have H2' := H2
  obtain ⟨es, ep, t, hg, HT⟩ := H2
  refine wpAny_bind ?_
  show wpAny _ _ (load b >>= fun o => pure o.cls) _ _ _
  refine wpAny_bind (wpAny_load hg (wpAny_pure ?_))
  dsimp only
  rw [hnd]
  simp only [Bool.false_eq_true, if_false]
  refine wpAny_bind (isAny_ H2' C2 ?_)
  simp only [if_true]
  refine wpAny_bind (wpAny_pure (wpAny_bind (wpAny_pure ?_)))
  refine wpAny_bind (wpAny_setEpoch_of hg rfl HT.fits ?_)
  refine wpAny_holding (wpAny_bind (unseen1 H2' (fun c hc => ?_) H fun es2 h2 Wk sb Hr2 => ?_))
  · simp only [List.mem_cons, List.not_mem_nil, or_false] at hc
    subst hc
    exact ⟨_, _, H⟩
  · rw [← Array.forIn_toList]
    refine wpAny_bind (flip_loop (s := { s with heap := h2 }) ((sb.2 _ hab).trans hg) HT Hr2 hab (Wk.ok HT.small) (Wk.perm.nodup_iff.mpr HT.nodup) fun h3 R sb3 HR hR => wpAny_pure ?_)
    exact h h3 R (sb.trans sb3) HR fun i => by rw [hR i]; simp [Wk.perm.mem_iff]
end
end Mine

end

section
open PySem PySem.W PyProof.Rows PySem.Calls
open PySem.Builtin.Frozenset
namespace Mine

abbrev liObj (vs : List Value) (n : Nat) : Obj := { cls := .type "list", data := .seq vs.toArray n }

theorem looks_cls {M : Model} {h : Heap} {a : Addr} {x : Obj} (hg : h.get? a = some x) : Looks M h (typeOf (.ref a)) x.cls := (Looks.ld (part := none) hg).andThen .now
theorem SetAt.inst {prog w} {h : Heap} {a o S} (H : SetAt h a o S) (C : SetCls prog w h o) : Looks (model prog w) h (isInstance (.ref a) (.type "set")) true := by
  obtain ⟨es, ep, t, hg, _⟩ := H
  exact (looks_cls hg).andThen C

section
variable {prog : Program} {w : World} {A : Around} {E : Value → Shared → Prop} {s : Shared} {a b l r : Addr} {o ob orr : Obj} {S T R V : List Int}

theorem check_meth {M : Model} {i owner n : String} {self : Value} {rest : List Value} {kw : List (Str × Value)} {Q : Unit → Shared → Prop}
    (hk : builtinKind i = some .method) (hs : splitId i = some (owner, n)) (hi : Looks M s.heap (isInstance self (.type owner)) true) (ha : argsOk i ⟨self :: rest, kw⟩) (q : Q () s) :
    wpAny M A (checkBuiltinCall i ⟨self :: rest, kw⟩) Q E s := by
  simp only [checkBuiltinCall, hk, hs]
  refine wpAny_bind (hi.here ?_)
  simp only [Bool.not_true, Bool.false_eq_true, if_false]
  cases hsig : Manifest.signature? i with
  | none => exact wpAny_pure q
  | some sig =>
    simp only [argsOk, hsig] at ha
    have h2 : Bind.checkArgs i sig ⟨self :: rest, kw⟩ = pure () := ha
    show wpAny M A (Bind.checkArgs i sig ⟨self :: rest, kw⟩) Q E s
    rw [h2]; exact wpAny_pure q

theorem call_sm {id n : String} {bl : Builtin} {self : Value} {rest : List Value} {Q : Value → Shared → Prop}
    (hk : builtinKind id = some .method ∨ builtinKind id = some .slot) (hs : splitId id = some ("set", n)) (hp : plainId id = true) (he : entryFor table id = some bl)
    (hi : Looks (model prog w) s.heap (isInstance self (.type "set")) true) (ha : argsOk id ⟨self :: rest, []⟩)
    (hb : wpAny (model prog w) A.in1 (bl ⟨self :: rest, []⟩) (fun fin s' => ∃ v, fin = .done (.ret v) ∧ Q v s') E s) :
    wpAny (model prog w) A (call (.builtin id) (self :: rest)) Q E s := by
  have hb' : wpAny (model prog w) A.in1 (bl ⟨self :: rest, []⟩) (fun fin s' => match fin with | .done f => (match (Except.ok f : Result) with | .ok (.ret v) => Q v s' | .ok _ => False | .error e => E e s') | .again c' => c'.quiet = true ∧ codeAny (model prog w) A c' (fun r s' => match r with | .ok (.ret v) => Q v s' | .ok _ => False | .error e => E e s') s') E s :=
    wpAny_mono hb (fun fin s' h' => by obtain ⟨v, rfl, hv⟩ := h'; exact hv) fun _ _ z => z
  refine wpAny_call (codeAny_call_builtin hp he ?_)
  rcases hk with hk | hk
  · exact check_meth hk hs hi ha hb'
  · exact check_slot hk hs hi ha hb'

theorem upd_loop {vs : List Value} : ∀ (m k : Nat) {s : Shared} {S : List Int} {it : Addr} {A : Around} {R : Result → Shared → Prop}, m = V.length - k → A.handled = none → s.heap.IsList l vs.toArray → IntsAre vs V → (∀ i ∈ V, Sm i) → s.heap.IsListIter it l k → SetAt s.heap a o S → a ≠ it → a ≠ l → it ≠ l → k ≤ V.length →
    (∀ h' tk S', (∀ i, i ∈ S' ↔ i ∈ S ∨ i ∈ V.drop k) → SetAt h' a o S' → (∀ b x, b ≠ a → b ≠ it → s.heap.get? b = some x → h'.get? b = some x) → R (.ok (.ret .none)) { s with heap := h', toks := tk }) →
    codeAny (model prog w) A (.builtin "set.update.loop" ⟨[.ref a, .ref it], []⟩) R s
  | 0, k, s, S, it, A, R, hm, hh, hl, hi, hsm, hit, H, n1, n2, n3, hk, h => by
    have hkV : k = V.length := by omega
    subst hkV
    refine codeAny_builtin PyProof.Rows.F.entry_set_update_loop ?_
    rw [Around.under_plainId PyProof.Rows.F.plain_set_update_loop _]
    show wpAny _ A.in1 (pyNext (.ref it) >>= _) _ _ s
    refine wpAny_bind (wpAny_pyNext_list_end hh hit hl (by simp [hi.length]) fun h' eb => ?_)
    show wpAny _ A.in1 (ret Value.none) _ _ _
    have keep : ∀ b x, b ≠ it → s.heap.get? b = some x → h'.get? b = some x := fun b x hb e => eb b x hb e
    obtain ⟨es, ep, t, hg, HS⟩ := H
    exact wpAny_pure (h h' s.toks S (fun i => by simp) ⟨es, ep, t, keep _ _ n1 hg, HS⟩ fun b x _ hb e => keep b x hb e)
  | m + 1, k, s, S, it, A, R, hm, hh, hl, hi, hsm, hit, H, n1, n2, n3, hk, h => by
    have hlt : k < V.length := by omega
    have hlen : vs.length = V.length := hi.length
    obtain ⟨tk, hv⟩ := PyProof.Rows.IntsAre.int_at hi k _ (List.getElem?_eq_getElem (by omega : k < vs.length))
    have hx : vs.toArray[k]? = some (.int (V.getD k 0) tk) := by
      rw [List.getElem?_toArray, List.getElem?_eq_getElem (by omega : k < vs.length), hv]
    have hvk : V.getD k 0 = V[k] := by rw [List.getD_eq_getElem?_getD, List.getElem?_eq_getElem hlt]; rfl
    rw [hvk] at hx
    have hsk := hsm _ (List.getElem_mem hlt)
    refine codeAny_builtin PyProof.Rows.F.entry_set_update_loop ?_
    rw [Around.under_plainId PyProof.Rows.F.plain_set_update_loop _]
    show wpAny _ A.in1 (pyNext (.ref it) >>= _) _ _ s
    refine wpAny_bind (wpAny_pyNext_list_item hit hl hx fun h1 hit1 sb1 => ?_)
    show wpAny _ A.in1 (holding [Value.int V[k] tk] (setAdd a (.int V[k] tk)) >>= _) _ _ _
    refine wpAny_bind (wpAny_holding ?_)
    unfold setAdd
    refine wpAny_holding (wpAny_bind ((PySem.intKind prog w).pyHash (k := V[k]) (intKind_is _ _ _ _) ?_))
    rw [show (PySem.intKind prog w).hash V[k] = V[k] from hash_small hsk]
    refine add_ (s := { s with heap := h1, toks := s.toks + 1 }) (H.but sb1 n1) hsk fun h2 sb2 H2 => ?_
    refine wpAny_pure ⟨plainId_quiet PyProof.Rows.F.plain_set_update_loop _, ?_⟩
    have hl2 : h2.IsList l vs.toArray := by
      obtain ⟨ol, hol, r⟩ := hl
      exact ⟨ol, (sb2.2 l (Ne.symm n2)).trans ((sb1.2 l (Ne.symm n3)).trans hol), r⟩
    have hit2 : h2.IsListIter it l (k + 1) := by
      obtain ⟨oi, hoi, r⟩ := hit1
      exact ⟨oi, (sb2.2 it (Ne.symm n1)).trans hoi, r⟩
    refine upd_loop m (k + 1) (s := { s with heap := h2, toks := s.toks + 1 }) (by omega) hh hl2 hi hsm hit2 H2 n1 n2 n3 (by omega) fun h3 tk3 S3 hS3 H3 k3 => ?_
    refine h h3 tk3 S3 (fun i => ?_) H3 fun b x hb hb' e => k3 b x hb hb' ((sb2.2 b hb).trans ((sb1.2 b hb').trans e))
    rw [hS3 i, ← List.getElem_cons_drop hlt, List.mem_cons]
    split
    · rename_i hin
      exact ⟨fun z => z.elim .inl fun z => .inr (.inr z), fun z => z.elim .inl fun z => z.elim (fun e => .inl (e ▸ hin)) .inr⟩
    · rw [List.mem_append, List.mem_singleton]
      exact ⟨fun z => z.elim (fun z => z.elim .inl fun e => .inr (.inl e)) fun z => .inr (.inr z), fun z => z.elim (fun z => .inl (.inl z)) fun z => z.elim (fun e => .inl (.inr e)) .inr⟩

abbrev KeepBut (a : Addr) (h h' : Heap) : Prop := ∀ b x, b ≠ a → h.get? b = some x → h'.get? b = some x

theorem notAny_list {Q : Bool → Shared → Prop} {items : Array Value} (hl : s.heap.IsList l items) (h : Q false s) : wpAny (model prog w) A (isAnySet (.ref l)) Q E s := by
  unfold isAnySet
  refine wpAny_bind (wpAny_isInstance hl.typeIs PySem.F.sub_list_set ?_)
  exact wpAny_isInstance hl.typeIs PySem.F.sub_list_frozenset h

theorem update_list {id : String} {vs : List Value} {Q : Unit → Shared → Prop} (hh : A.handled = none) (hl : s.heap.IsList l vs.toArray) (hi : IntsAre vs V) (hsm : ∀ i ∈ V, Sm i) (H : SetAt s.heap a o S)
    (h : ∀ h' tk S', (∀ i, i ∈ S' ↔ i ∈ S ∨ i ∈ V) → SetAt h' a o S' → KeepBut a s.heap h' → Q () { s with heap := h', toks := tk }) : wpAny (model prog w) A (updateFrom id a (.ref l)) Q E s := by
  have hal : a ≠ l := fun q => by
    obtain ⟨es, ep, t, hg, _⟩ := H
    obtain ⟨ol, hol, hc, n, hd⟩ := hl
    subst q
    rw [hg] at hol; cases hol; cases hd
  unfold updateFrom
  refine wpAny_bind (notAny_list hl ?_)
  simp only [Bool.false_eq_true, if_false]
  refine wpAny_bind (wpAny_typeOf hl.typeIs ?_)
  rw [show (Value.type "list" == Value.type "dict") = false by decide]
  simp only [Bool.false_eq_true, if_false]
  refine wpAny_bind (wpAny_pyIter_list hl ?_)
  have k1 := Stays.push (h := s.heap) { cls := .type "list_iterator", data := .fields #[.ref l, .int 0 0] }
  have hg1 := Heap.get?_push_size s.heap (o := { cls := .type "list_iterator", data := .fields #[.ref l, .int 0 0] }) rfl
  have hne : l ≠ s.heap.objs.size := by obtain ⟨ol, hol, _⟩ := hl; exact ne_size hol
  refine wpAny_bind (wpAny_runValue ?_)
  refine upd_loop V.length 0 (s := { s with heap := s.heap.push { cls := .type "list_iterator", data := .fields #[.ref l, .int 0 0] } }) (l := l) (V := V) (vs := vs) (S := S) rfl hh ?_ hi hsm ?_ (H.stays k1) H.ne_size hal (Ne.symm hne) (Nat.zero_le _) fun h' tk S' hS' HS' kp => ?_
  · obtain ⟨ol, hol, r⟩ := hl; exact ⟨ol, k1 _ _ hol, r⟩
  · exact ⟨_, hg1, rfl, rfl⟩
  · exact wpAny_pure (h h' tk S' (by simpa using hS') HS' fun b x hb e => kp b x hb (ne_size e) (k1 b x e))

theorem set_update {vs : List Value} {Q : Value → Shared → Prop} (hh : A.handled = none) (hl : s.heap.IsList l vs.toArray) (hi : IntsAre vs V) (hsm : ∀ i ∈ V, Sm i) (H : SetAt s.heap a o S) (C : SetCls prog w s.heap o)
    (h : ∀ h' tk S', (∀ i, i ∈ S' ↔ i ∈ S ∨ i ∈ V) → SetAt h' a o S' → KeepBut a s.heap h' → Q .none { s with heap := h', toks := tk }) : wpAny (model prog w) A (call (.builtin "set.update") [.ref a, .ref l]) Q E s := by
  refine call_sm (n := "update") (.inl (by kernel_rfl)) (by kernel_rfl) PySem.F.slot_set_update.plain PySem.F.entry_set_update (H.inst C) (PySem.F.args_set_update_2 _ _) ?_
  unfold Builtin.«set.update» manyOthers
  simp only [List.isEmpty_nil, Bool.not_true, Bool.false_eq_true, if_false]
  refine wpAny_bind (wpAny_bind (wpAny_pure (wpAny_pure ?_)))
  dsimp only
  rw [List.forIn_cons]
  refine wpAny_bind (wpAny_bind (wpAny_bind (update_list hh hl hi hsm H fun h' tk S' hS' HS' kp => wpAny_pure ?_)))
  dsimp only
  rw [List.forIn_nil]
  exact wpAny_pure (wpAny_pure ⟨_, rfl, h h' tk S' hS' HS' kp⟩)
end
end Mine

end

section
open PySem PySem.W PyProof.Rows PySem.Calls
open PySem.Builtin.Frozenset
namespace Mine

/-- where a special name of an object's class leads -/
abbrev Sp (prog : Program) (w : World) (h : Heap) (o : Obj) (name : Str) (v : Value) : Prop := Looks (model prog w) h (typeLookup o.cls name) (some v)

section
variable {prog : Program} {w : World} {A : Around} {E : Value → Shared → Prop} {s : Shared} {a b l r : Addr} {o ob orr : Obj} {S T R V : List Int} {i : Int} {tk : Tok}

theorem specialOf_ {name : Str} {v : Value} {Q : Option Value → Shared → Prop} {x : Obj} (hg : s.heap.get? a = some x) (P : Sp prog w s.heap x name v) (h : Q (some v) s) : wpAny (model prog w) A (specialOf (.ref a) name) Q E s := by
  unfold specialOf
  exact wpAny_bind ((looks_cls hg).here (P.here h))

theorem contains_set {Q : Bool → Shared → Prop} (H : SetAt s.heap a o S) (C : SetCls prog w s.heap o) (P : Sp prog w s.heap o "__contains__" (.builtin "set.__contains__")) (hi : Sm i)
    (h : Q (decide (i ∈ S)) { s with toks := s.toks + 1 }) : wpAny (model prog w) A (contains (.ref a) (.int i tk)) Q E s := by
  have H' := H
  obtain ⟨es, ep, t, hg, HS⟩ := H
  have P' : Sp prog w s.heap { o with data := .set es ep t } "__contains__" (.builtin "set.__contains__") := P
  unfold contains
  refine wpAny_holding (wpAny_bind (specialOf_ hg P' ?_))
  show wpAny _ _ (if (some (Value.builtin "set.__contains__") == some Value.none) = true then _ else _) _ E s
  rw [if_neg (by rw [beq_builtin_none]; exact Bool.false_ne_true)]
  refine wpAny_bind ?_
  unfold callSpecialUnlessNone?
  refine wpAny_bind (specialOf_ hg P' ?_)
  dsimp only
  rw [PySem.F.slot_set_contains.bind]
  refine wpAny_holding (wpAny_bind (wpAny_pure ?_))
  dsimp only
  rw [if_neg (by simp)]
  refine wpAny_bind (call_sm (n := "__contains__") (.inl (by kernel_rfl)) (by kernel_rfl) PySem.F.slot_set_contains.plain entry_set_contains (H'.inst C) (PySem.F.args_set_contains_2 _ _) ?_)
  unfold Builtin.«frozenset.__contains__» Builtin.Frozenset.oneOther
  simp only [List.isEmpty_nil]
  unfold Builtin.Frozenset.addrOf Builtin.Frozenset.withSetAsKey setContains
  refine wpAny_bind (wpAny_bind (wpAny_pure (wpAny_pure ?_)))
  dsimp only
  refine wpAny_bind (wpAny_tryCatch ?_)
  refine wpAny_holding ?_
  refine wpAny_bind ((PySem.intKind prog w).pyHash (k := i) (intKind_is _ _ _ _) ?_)
  rw [show (PySem.intKind prog w).hash i = i from hash_small hi]
  refine wpAny_bind (find_ (s := { s with toks := s.toks + 1 }) H' hi fun r hr => ?_)
  refine wpAny_pure ?_
  show wpAny _ _ (ret (Value.bool r.isSome)) _ _ _
  rw [hr]
  exact wpAny_pure ⟨_, rfl, wpAny_pure (wpAny_truthy_bool h)⟩

theorem in_set {Q : Value → Shared → Prop} (H : SetAt s.heap a o S) (C : SetCls prog w s.heap o) (P : Sp prog w s.heap o "__contains__" (.builtin "set.__contains__")) (hi : Sm i)
    (h : Q (.bool (decide (i ∈ S))) { s with toks := s.toks + 1 }) : wpAny (model prog w) A (compareOp .In (.int i tk) (.ref a)) Q E s := by
  show wpAny _ _ (do return .bool (← contains (.ref a) (.int i tk))) Q E s
  exact wpAny_bind (contains_set H C P hi (wpAny_pure h))
theorem notIn_set {Q : Value → Shared → Prop} (H : SetAt s.heap a o S) (C : SetCls prog w s.heap o) (P : Sp prog w s.heap o "__contains__" (.builtin "set.__contains__")) (hi : Sm i)
    (h : Q (.bool (decide (i ∉ S))) { s with toks := s.toks + 1 }) : wpAny (model prog w) A (compareOp .NotIn (.int i tk) (.ref a)) Q E s := by
  show wpAny _ _ (do return .bool (!(← contains (.ref a) (.int i tk)))) Q E s
  refine wpAny_bind (contains_set H C P hi (wpAny_pure ?_))
  rw [← decide_not]; exact h

theorem plain_sp {h : Heap} : Sp prog w h plainSet "__contains__" (.builtin "set.__contains__") := Looks.of_pure PySem.F.slot_set_contains.lookup

theorem set_add {Q : Value → Shared → Prop} (H : SetAt s.heap a o S) (C : SetCls prog w s.heap o) (hi : Sm i)
    (h : ∀ h', Heap.SameBut a s.heap h' → SetAt h' a o (if i ∈ S then S else S ++ [i]) → Q .none { s with heap := h', toks := s.toks + 1 }) :
    wpAny (model prog w) A (call (.builtin "set.add") [.ref a, .int i tk]) Q E s := by
  refine call_sm (n := "add") (.inl (by kernel_rfl)) (by kernel_rfl) PySem.F.slot_set_add.plain PySem.F.entry_set_add (H.inst C) (PySem.F.args_set_add_2 _ _) ?_
  unfold Builtin.«set.add» Builtin.Frozenset.oneOther
  simp only [List.isEmpty_nil, bind_assoc]
  unfold Builtin.Frozenset.addrOf setAdd
  refine wpAny_bind (wpAny_pure ?_)
  try dsimp only
  refine wpAny_bind (wpAny_pure ?_)
  try dsimp only
  refine wpAny_bind (wpAny_holding (wpAny_bind ((PySem.intKind prog w).pyHash (k := i) (intKind_is _ _ _ _) ?_)))
  rw [show (PySem.intKind prog w).hash i = i from hash_small hi]
  refine add_ (s := { s with toks := s.toks + 1 }) H hi fun h' sb H' => ?_
  show wpAny _ _ (ret Value.none) _ _ _
  exact wpAny_pure ⟨_, rfl, h h' sb H'⟩

theorem set_len {Q : Value → Shared → Prop} (H : SetAt s.heap a o S) (C : SetCls prog w s.heap o) (P : Sp prog w s.heap o "__len__" (.builtin "set.__len__"))
    (h : Q (.int S.length (s.toks + 1)) { s with toks := s.toks + 1 + 1 }) : wpAny (model prog w) A (call (.builtin "len") [.ref a]) Q E s := by
  have H' := H
  have hlen := H.len
  obtain ⟨es, ep, t, hg, HS⟩ := H
  have P' : Sp prog w s.heap { o with data := .set es ep t } "__len__" (.builtin "set.__len__") := P
  refine Calls.call_function_entry kind_len plain_len entry_len (args_len1 _) ?_
  unfold Builtin.«len»
  refine wpAny_bind (m := oneArg "len" _) (wpAny_pure ?_)
  refine wpAny_bind (m := callSpecial? (.ref a) (Str.ofString "__len__")) ?_
  unfold callSpecial?
  refine wpAny_bind (specialOf_ hg P' ?_)
  dsimp only
  rw [PySem.F.slot_set_len.bind]
  refine wpAny_holding (wpAny_bind (wpAny_pure (wpAny_bind ?_)))
  refine call_sm (n := "__len__") (.inr (by kernel_rfl)) (by kernel_rfl) PySem.F.slot_set_len.plain entry_set_len (H'.inst C) (PySem.F.args_set_len_1 _) ?_
  unfold Builtin.«frozenset.__len__» Builtin.Frozenset.slot0 slotArgs
  simp only [List.isEmpty_nil, Bool.not_true, Bool.false_eq_true, ↓reduceIte, bind_assoc, List.length_nil, bne_self_eq_false]
  unfold Builtin.Frozenset.addrOf
  refine wpAny_bind (wpAny_pure ?_)
  try dsimp only
  refine wpAny_bind (wpAny_pure ?_)
  refine wpAny_bind (sizeOf_ H' ?_)
  show wpAny _ _ (retInt _) _ _ _
  unfold retInt
  refine wpAny_bind (wpAny_mkInt (wpAny_pure ⟨_, rfl, wpAny_pure ?_⟩))
  refine wpAny_bind (wpAny_holding (wpAny_pure ?_))
  refine wpAny_bind (wpAny_letGo ?_)
  show wpAny _ _ (if ((S.length : Nat) : Int) < 0 then _ else _) _ _ _
  rw [if_neg (by omega)]
  show wpAny _ _ (if ((S.length : Nat) : Int) ≥ 2 ^ 63 then _ else _) _ _ _
  rw [if_neg (by omega)]
  exact wpAny_bind (wpAny_mkInt (wpAny_pure ⟨_, rfl, h⟩))

theorem entry_set_inter : entryFor table "set.intersection" = some Builtin.«frozenset.intersection» :=
  entryFor_alias (id' := "frozenset.intersection") (by rw [fastTable_eq_tree]; kernel_rfl) rfl (by decide +kernel) (by rw [fastTable_eq_tree]; kernel_rfl)
theorem entry_set_diff : entryFor table "set.difference" = some Builtin.«frozenset.difference» :=
  entryFor_alias (id' := "frozenset.difference") (by rw [fastTable_eq_tree]; kernel_rfl) rfl (by decide +kernel) (by rw [fastTable_eq_tree]; kernel_rfl)

theorem set_inter {Q : Value → Shared → Prop} (H : SetAt s.heap a o S) (H2 : SetAt s.heap b ob T) (C : SetCls prog w s.heap o) (C2 : SetCls prog w s.heap ob)
    (h : ∀ h' R, Stays s.heap h' → SetAt h' s.heap.objs.size plainSet R → (∀ i, i ∈ R ↔ i ∈ S ∧ i ∈ T) → Q (.ref s.heap.objs.size) { s with heap := h' }) :
    wpAny (model prog w) A (call (.builtin "set.intersection") [.ref a, .ref b]) Q E s := by
  refine call_sm (n := "intersection") (.inl (by kernel_rfl)) (by kernel_rfl) PySem.F.slot_set_intersection.plain entry_set_inter (H.inst C) (PySem.F.args_set_intersection_2 _ _) ?_
  unfold Builtin.«frozenset.intersection» manyOthers
  simp only [List.isEmpty_nil, Bool.not_true, Bool.false_eq_true, if_false]
  refine wpAny_bind (wpAny_bind (wpAny_pure (wpAny_pure ?_)))
  dsimp only
  simp only [List.isEmpty_cons, Bool.false_eq_true, if_false]
  rw [List.forIn_cons]
  refine wpAny_bind (wpAny_bind (wpAny_bind (wpAny_holding (wpAny_bind (wpAny_pure (inter_set H H2 C C2 fun h' R k HR hR => wpAny_pure ?_))))))
  dsimp only
  rw [List.forIn_nil]
  exact wpAny_pure (wpAny_pure ⟨_, rfl, h h' R k HR hR⟩)

theorem set_diff {Q : Value → Shared → Prop} (H : SetAt s.heap a o S) (H2 : SetAt s.heap b ob T) (C : SetCls prog w s.heap o) (C2 : SetCls prog w s.heap ob)
    (h : ∀ h' R, Stays s.heap h' → SetAt h' s.heap.objs.size plainSet R → (∀ i, i ∈ R ↔ i ∈ S ∧ i ∉ T) → Q (.ref s.heap.objs.size) { s with heap := h' }) :
    wpAny (model prog w) A (call (.builtin "set.difference") [.ref a, .ref b]) Q E s := by
  refine call_sm (n := "difference") (.inl (by kernel_rfl)) (by kernel_rfl) PySem.F.slot_set_difference.plain entry_set_diff (H.inst C) (PySem.F.args_set_difference_2 _ _) ?_
  unfold Builtin.«frozenset.difference» manyOthers
  simp only [List.isEmpty_nil, Bool.not_true, Bool.false_eq_true, if_false]
  refine wpAny_bind (wpAny_bind (wpAny_pure (wpAny_pure ?_)))
  dsimp only
  refine wpAny_bind (diff_set H H2 C C2 fun h' R k HR hR => wpAny_bind (wpAny_holding ?_))
  rw [List.forIn_nil]
  exact wpAny_pure (wpAny_pure ⟨_, rfl, h h' R k HR hR⟩)

theorem set_interUpd {Q : Value → Shared → Prop} (H : SetAt s.heap a o S) (H2 : SetAt s.heap b ob T) (C : SetCls prog w s.heap o) (C2 : SetCls prog w s.heap ob)
    (h : ∀ h' R, KeepBut a s.heap h' → SetAt h' a o R → (∀ i, i ∈ R ↔ i ∈ S ∧ i ∈ T) → Q .none { s with heap := h' }) :
    wpAny (model prog w) A (call (.builtin "set.intersection_update") [.ref a, .ref b]) Q E s := by
  refine call_sm (n := "intersection_update") (.inl (by kernel_rfl)) (by kernel_rfl) PySem.F.slot_set_intersection_update.plain PySem.F.entry_set_intersection_update (H.inst C) (PySem.F.args_set_intersection_update_2 _ _) ?_
  unfold Builtin.«set.intersection_update» manyOthers
  simp only [List.isEmpty_nil, Bool.not_true, Bool.false_eq_true, if_false]
  refine wpAny_bind (wpAny_bind (wpAny_pure (wpAny_pure ?_)))
  dsimp only
  simp only [List.isEmpty_cons, Bool.false_eq_true, if_false]
  refine wpAny_bind (wpAny_pure ?_)
  rw [List.forIn_cons]
  refine wpAny_bind (wpAny_bind (wpAny_bind (wpAny_holding (wpAny_bind (wpAny_pure (inter_set H H2 C C2 fun h' R k HR hR => wpAny_pure ?_))))))
  dsimp only
  rw [List.forIn_nil]
  refine wpAny_pure (wpAny_bind (wpAny_pure (wpAny_bind (wpAny_holding ?_))))
  exact takeOver_ (s := { s with heap := h' }) (H.stays k) HR fun h2 sb H3 => wpAny_pure ⟨_, rfl, h h2 R (fun b x hb e => (sb.2 b hb).trans (k b x e)) H3 hR⟩

theorem set_diffUpd {Q : Value → Shared → Prop} (H : SetAt s.heap a o S) (H2 : SetAt s.heap b ob T) (C : SetCls prog w s.heap o) (C2 : SetCls prog w s.heap ob) (hab : b ≠ a) (hsz : T.length / 8 ≤ S.length)
    (h : ∀ h' R, Heap.SameBut a s.heap h' → SetAt h' a o R → (∀ i, i ∈ R ↔ i ∈ S ∧ i ∉ T) → Q .none { s with heap := h' }) :
    wpAny (model prog w) A (call (.builtin "set.difference_update") [.ref a, .ref b]) Q E s := by
  refine call_sm (n := "difference_update") (.inl (by kernel_rfl)) (by kernel_rfl) PySem.F.slot_set_difference_update.plain PySem.F.entry_set_difference_update (H.inst C) (PySem.F.args_set_difference_update_2 _ _) ?_
  unfold Builtin.«set.difference_update» manyOthers
  simp only [List.isEmpty_nil, Bool.not_true, Bool.false_eq_true, if_false]
  refine wpAny_bind (wpAny_bind (wpAny_pure (wpAny_pure ?_)))
  dsimp only
  rw [List.forIn_cons]
  refine wpAny_bind (wpAny_bind (wpAny_bind (diffUpd_ H H2 C2 hab hsz fun h' R sb HR hR => wpAny_pure ?_)))
  dsimp only
  rw [List.forIn_nil]
  exact wpAny_pure (wpAny_pure ⟨_, rfl, h h' R sb HR hR⟩)

theorem set_symUpd {Q : Value → Shared → Prop} (H : SetAt s.heap a o S) (H2 : SetAt s.heap b ob T) (C : SetCls prog w s.heap o) (C2 : SetCls prog w s.heap ob) (hnd : (ob.cls == .type "dict") = false) (hab : b ≠ a)
    (h : ∀ h' R, Heap.SameBut a s.heap h' → SetAt h' a o R → (∀ i, i ∈ R ↔ (i ∈ S ∧ i ∉ T) ∨ (i ∉ S ∧ i ∈ T)) → Q .none { s with heap := h' }) :
    wpAny (model prog w) A (call (.builtin "set.symmetric_difference_update") [.ref a, .ref b]) Q E s := by
  refine call_sm (n := "symmetric_difference_update") (.inl (by kernel_rfl)) (by kernel_rfl) PySem.F.slot_set_symmetric_difference_update.plain PySem.F.entry_set_symmetric_difference_update (H.inst C) (PySem.F.args_set_symmetric_difference_update_2 _ _) ?_
  unfold Builtin.«set.symmetric_difference_update» Builtin.Frozenset.oneOther
  simp only [List.isEmpty_nil, bind_assoc]
  unfold Builtin.Frozenset.addrOf
  refine wpAny_bind (wpAny_pure ?_)
  try dsimp only
  refine wpAny_bind (wpAny_pure ?_)
  try dsimp only
  exact wpAny_bind (symUpd_ H H2 C2 hnd hab fun h' R sb HR hR => wpAny_pure ⟨_, rfl, h h' R sb HR hR⟩)
end
end Mine

end

section
open PySem PySem.W PyProof.Rows PySem.Calls
open PySem.Builtin.Frozenset PySem.Builtin PySem.Builtin.ObjectAttr PySem.Builtin.Getset_descriptor
namespace Mine

abbrev osO (d l : Addr) : Obj := { cls := .ref 232, dict := some d, slots := #[some (.ref l)] }
abbrev osN (d : Addr) : Obj := { cls := .ref 232, dict := some d }

/-- an object of the class OrderedSet: the bare object o (its data apart), its dict, the set's elements -/
structure OSat (h : Heap) (a d : Addr) (o : Obj) (S : List Int) : Prop where
  set : SetAt h a o S
  cls : o.cls = .ref 232
  dict : o.dict = some d
  dat : h.get? d = some (dictOf [] 0)

section
variable {prog : Program} {w : World} {A : Around} {E : Value → Shared → Prop} {s : Shared} {a b d l r : Addr} {o ob orr : Obj} {S T R V : List Int} {name : Str}

theorem OSat.inst {h : Heap} (O : OSat h a d o S) : ∃ ox, InstAt h a ox 232 (some (dictOf [] 0)) ∧ ox.slots = o.slots ∧ ∃ es ep t, ox = { o with data := .set es ep t } ∧ SetIs es t S := by
  obtain ⟨⟨es, ep, t, hg, HS⟩, hc, hd, hdat⟩ := O
  exact ⟨_, ⟨hg, hc, rfl, by show (match o.dict, some (dictOf [] 0) with | some dx, some o => h.get? dx = some o | none, none => True | _, _ => False); rw [hd]; exact hdat⟩, rfl, es, ep, t, rfl, HS⟩

theorem os_cls {h : Heap} (X : (hd.heap_39 w.params).In h) (hc : o.cls = .ref 232) : SetCls prog w h o := by
  unfold SetCls; rw [hc]
  exact looks_mroIn X (by kernel_rfl)
theorem os_contains {h : Heap} (X : (hd.heap_39 w.params).In h) (hc : o.cls = .ref 232) : Sp prog w h o "__contains__" (.builtin "set.__contains__") := by
  unfold Sp; rw [hc]
  exact looks_findIn X (by kernel_rfl)
theorem os_len {h : Heap} (X : (hd.heap_39 w.params).In h) (hc : o.cls = .ref 232) : Sp prog w h o "__len__" (.builtin "set.__len__") := by
  unfold Sp; rw [hc]
  exact looks_findIn X (by kernel_rfl)

theorem os_ga (P : Params) : findIn (hd.heap_39 P) (.ref 232) "__getattribute__" = some (some (.builtin "set.__getattribute__")) := by kernel_rfl
theorem os_g (P : Params) : findIn (hd.heap_39 P) (.ref 232) "__getattr__" = some none := by kernel_rfl
theorem os_sa (P : Params) : findIn (hd.heap_39 P) (.ref 232) "__setattr__" = some (some (.builtin "object.__setattr__")) := by kernel_rfl
theorem canon_set_ga : (Manifest.canonical "set.__getattribute__" != "object.__getattribute__") = false := by decide +kernel
theorem entry_set_ga : entryFor table "set.__getattribute__" = some Builtin.«object.__getattribute__» :=
  PySem.F.entry_set_ga

theorem os_method {f : Addr} {pl : Sem Bool} {Q : Value × List Value → Shared → Prop} (X : (hd.heap_39 w.params).In s.heap) (O : OSat s.heap a d o S)
    (hf : findIn (hd.heap_39 w.params) (.ref 232) name = some (some (.ref f))) (ht : typeIn (hd.heap_39 w.params) (.ref f) = some (.type "function")) (h : Q (.ref f, [.ref a]) s) :
    wpAny (model prog w) A (getMethod (.ref a) name pl) Q E s := by
  obtain ⟨ox, I, _, _, _, _, rfl, _⟩ := O.inst
  unfold getMethod specialOf
  refine wpAny_bind (wpAny_bind (I.type.here ((looks_findIn X (os_ga _)).here ?_)))
  dsimp only
  rw [canon_set_ga, if_neg (by decide)]
  refine wpAny_bind (wpAny_bind (I.type.here ((looks_findIn X (os_g _)).here ?_)))
  refine wpAny_bind (wpAny_bind (I.type.here ((looks_findIn X hf).here (wpAny_bind ((looks_typeIn X ht).here ?_)))))
  rw [if_neg (by decide +kernel)]
  refine wpAny_bind (wpAny_loadPart I.at_ ?_)
  have hd := I.dict
  dsimp only at hd ⊢
  rw [O.dict] at hd ⊢
  refine wpAny_bind (wpAny_bind (wpAny_loadPart hd ?_))
  rw [nsLook_of (r := none) (by rfl)]
  refine wpAny_pure ?_
  exact wpAny_bind (wpAny_rule (wpAny_pure h))

theorem os_get {g v : Value} {expr : Bool} {Q : Value → Shared → Prop} (X : (hd.heap_39 w.params).In s.heap) (O : OSat s.heap a d o S)
    (hf : findObj (hd.heap_39 w.params) 232 (some (dictOf [] 0)) name = some (.bind g v))
    (h : wpAny (model prog w) A.in1 (call g [v, .ref a, .ref 232]) (fun v s' => wpAny (model prog w) A (handedOut v) Q E s') (fun _ _ => False) { s with toks := s.toks + 1 }) :
    wpAny (model prog w) A (getAttr (.ref a) name expr) Q E s := by
  obtain ⟨ox, I, _⟩ := O.inst
  have C : Looks (model prog w) s.heap (isInstance (.ref a) (.type "set")) true := I.type.andThen (looks_mroIn X (by kernel_rfl))
  have L1 := looks_find (M := model prog w) X I hf
  unfold getAttr getAttrBy
  refine wpAny_bind (wpAny_mkText (wpAny_holding (wpAny_bind (I.type _ _ _ _ (fun _ _ e => e) (wpAny_bind (looks_findIn X (os_ga _) _ _ _ _ (fun _ _ e => e) ?_))))))
  show wpAny _ _ (getAttrByItsOwn (.ref a) (.str name s.toks) (.ref 232) (.builtin "set.__getattribute__") true expr) _ _ _
  unfold getAttrByItsOwn hookBefore callGetattribute boundAndCalled
  refine wpAny_bind (m := if onTheHeap (.ref 232) = true then _ else _) ?_
  show wpAny _ _ (typeLookup (.ref 232) "__getattr__") _ _ _
  refine looks_findIn X (os_g _) _ _ _ _ (fun _ _ e => e) ?_
  refine wpAny_bind (wpAny_attempt (wpAny_holding ?_))
  rw [show (expr && onTheHeap (.builtin "set.__getattribute__")) = false by cases expr <;> rfl]
  simp only [Bool.false_eq_true, if_false]
  rw [PySem.F.slot_set_getattribute.bind]
  refine wpAny_bind (wpAny_pure ?_)
  refine call_sm (s := { s with toks := s.toks + 1 }) (n := "__getattribute__") (.inr (by kernel_rfl)) (by kernel_rfl) PySem.F.slot_set_getattribute.plain entry_set_ga C (PySem.F.args_set_getattribute_2 _ _) ?_
  unfold Builtin.«object.__getattribute__» slotArgs
  refine wpAny_bind (m := pure (Value.ref a, [Value.str name s.toks])) (wpAny_pure ?_)
  dsimp only
  refine wpAny_bind (m := pure name) (wpAny_pure ?_)
  refine wpAny_bind (I.type _ _ _ _ (fun _ _ e => e) ?_)
  refine wpAny_bind (L1 _ _ _ _ (fun _ _ e => e) ?_)
  dsimp only
  unfold bindTo
  dsimp only
  refine wpAny_bind (wpAny_holding (wpAny_mono h (fun v s' z => ?_) fun _ _ z => z.elim))
  exact wpAny_pure ⟨_, rfl, z⟩

theorem os_list {expr : Bool} {Q : Value → Shared → Prop} (X : (hd.heap_39 w.params).In s.heap) (O : OSat s.heap a d o S) (hl : o.slots = #[some (.ref l)]) (h : Q (.ref l) { s with toks := s.toks + 1 }) :
    wpAny (model prog w) A (getAttr (.ref a) "_list" expr) Q E s := by
  obtain ⟨ox, I, hs, _⟩ := O.inst
  refine os_get X O (g := .builtin "member_descriptor.__get__") (v := .ref 233) (findObj_data (by kernel_rfl) (by kernel_rfl) (by kernel_rfl) (by kernel_rfl)) (wpAny_call (slot_get (s := { s with toks := s.toks + 1 }) X I (i := 0) (v := .ref l) (by kernel_rfl) ?_ ?_))
  · rw [hs, hl]; rfl
  · show wpAny _ _ (handedOut (.ref l)) _ _ _
    exact wpAny_pure h

theorem os_bound {expr : Bool} {f : Addr} {Q : Value → Shared → Prop} (X : (hd.heap_39 w.params).In s.heap) (O : OSat s.heap a d o S)
    (hf : findObj (hd.heap_39 w.params) 232 (some (dictOf [] 0)) name = some (.bind (.builtin "function.__get__") (.ref f))) (ht : typeIn (hd.heap_39 w.params) (.ref f) = some (.type "function"))
    (h : Q (.ref s.heap.objs.size) { s with heap := s.heap.push (methodObj (.ref f) (.ref a)), toks := s.toks + 1 }) :
    wpAny (model prog w) A (getAttr (.ref a) name expr) Q E s :=
  os_get X O hf (wpAny_call (fn_get (s := { s with toks := s.toks + 1 }) X ht (handed_on rfl h)))

theorem refuse_os (self : Value) : refuseLoop self "__setattr__" [.ref 232, .type "set", .type "object"] = pure () := by
  rw [refuseLoop_ref]; kernel_rfl

theorem os_store {v : Value} {tk : Tok} {R : Result → Shared → Prop} (X : (hd.heap_39 w.params).In s.heap) (O : OSat s.heap a d o S)
    (h : R (.ok (.ret .none)) { s with heap := s.heap.update a fun x => { x with slots := (x.slots ++ Array.replicate (0 + 1 - x.slots.size) none).setIfInBounds 0 (some v) } }) :
    codeAny (model prog w) A (.call (.builtin "object.__setattr__") ⟨[.ref a, .str "_list" tk, v], []⟩) R s := by
  have SF := PySem.F.store_object
  obtain ⟨ox, I, hs, _⟩ := O.inst
  have sub : Looks (model prog w) s.heap (isInstance (.ref a) (.type "object")) true := I.type.andThen (looks_mroIn X (by kernel_rfl))
  refine codeAny_call_builtin SF.slot.plain SF.entry (@check_slot (model prog w) _ _ s "object.__setattr__" "object" "__setattr__" (.ref a) [.str "_list" tk, v] [] _ SF.kind SF.split sub (SF.args (.ref a) (.str "_list" tk) v) ?_)
  have hm : Looks (model prog w) s.heap (mroOf (.ref 232)) [.ref 232, .type "set", .type "object"] := (looks_clsIn X (cd := { name := "OrderedSet", bases := [.type "set"], mro := [.ref 232, .type "set", .type "object"], ns := 231, qualname := "OrderedSet", hasDict := false, slotNames := ["_list"] }) (by kernel_rfl)).andThen .now
  have hT : typeIn (hd.heap_39 w.params) (.ref 233) = some (.type "member_descriptor") := by kernel_rfl
  rw [osa_eq, refuse_eq]
  refine wpAny_bind (wpAny_bind (I.type.here (wpAny_bind (hm.here ?_))))
  rw [refuse_os]
  have L3 : Looks (model prog w) s.heap (storeTaker? (some (.ref 233))) (some (.ref 233)) := (looks_takesIn X (a := .ref 233) (r := true) (by kernel_rfl)).andThen .now
  refine wpAny_pure (wpAny_bind (I.type.here (wpAny_bind ((looks_findIn X (r := some (.ref 233)) (by kernel_rfl)).here (wpAny_bind (L3.here ?_))))))
  refine wpAny_bind (wpAny_rule (wpAny_bind (wpAny_holding (wpAny_bind (wpAny_bind ((looks_typeIn X hT).here ((Looks.of_pure KF.slot_mset.lookup).here (wpAny_holding ?_))))))))
  rw [KF.slot_mset.bind]
  refine wpAny_bind (wpAny_pure (wpAny_bind (wpAny_call ?_)))
  -- the descriptor
  obtain ⟨n, tn, owner, behind, tb, d', sl, cd, ho, hc, hmm, hb, hi⟩ := slot_of (C := 232) X (show slotIn (hd.heap_39 w.params) 233 232 = some 0 by kernel_rfl)
  obtain ⟨hh, g, dr, tt, os⟩ := s
  have L0 := I.type (M := model prog w)
  have L1 := looks_mroIn (M := model prog w) X hmm
  have L2 : Looks (model prog w) hh (Slots.slotNamesOf (.ref 232)) cd.slotNames := (looks_clsIn X hc).andThen .now
  have hx := I.at_
  dsimp only at ho hx L0 L1
  have f0 := looks_field (M := model prog w) ho 0 (v := .str n tn) rfl
  have f1 := looks_field (M := model prog w) ho 1 (v := owner) rfl
  have f3 := looks_field (M := model prog w) ho 3 (v := .builtin "proto.slot#set") rfl
  have f4 := looks_field (M := model prog w) ho 4 (v := .int behind tb) rfl
  refine codeAny_call_builtin KF.slot_mset.plain KF.entry_mset (KF.slot_mset.check _ _ _ _ _ _ _ _ ⟨_, ho, rfl⟩ (KF.args_mset _ _ _) ?_)
  unfold Builtin.«member_descriptor.__set__» descrSet descrStoreThrough descrCheckInstance descrNameAndClass isInstance
  have f5 : Looks (model prog w) hh (descrItself (.ref 233)) [.ref 233] := ((Looks.ld (part := none) ho).andThen .now).andThen (Looks.of_pure (by kernel_rfl))
  repeat lk
  refine ⟨Code.quiet_builtin _ (by decide +kernel), codeAny_builtin KF.entry_slotset ?_⟩
  unfold Builtin.«proto.slot#set» Slots.target
  repeat lk
  rw [if_neg hb]
  refine wpAny_pure (wpAny_bind ?_)
  unfold setSlotAt
  dsimp only
  rw [if_neg (by rw [sizeLine_eq]; omega), ← hi]
  exact wpAny_updatePart hx (wpAny_pure (wpAny_pure (wpAny_pure h)))

theorem os_set_list {v : Value} {Q : Unit → Shared → Prop} (X : (hd.heap_39 w.params).In s.heap) (O : OSat s.heap a d o S)
    (h : Q () { s with heap := s.heap.update a fun x => { x with slots := (x.slots ++ Array.replicate (0 + 1 - x.slots.size) none).setIfInBounds 0 (some v) }, toks := s.toks + 1 }) :
    wpAny (model prog w) A (setAttr (.ref a) "_list" v) Q E s := by
  obtain ⟨ox, I, _⟩ := O.inst
  exact set_plain X I (os_sa _) (os_store (s := { s with toks := s.toks + 1 }) X O h)
end
end Mine

end

section
open PySem PySem.W PyProof.Rows PySem.Calls
open PySem.Builtin.Frozenset PySem.Builtin PySem.Builtin.ObjectAttr PySem.Builtin.Getset_descriptor
namespace Mine

abbrev cdO : ClassData := { name := "OrderedSet", bases := [.type "set"], mro := [.ref 232, .type "set", .type "object"], ns := 231, qualname := "OrderedSet", hasDict := false, slotNames := ["_list"] }
abbrev clO : Obj := { cls := .type "type", data := .cls cdO, slots := #[some (.ref 29), none, some (.str "OrderedSet" 203), some (.str "OrderedSet" 211), some (.builtin "set.__new__"), some (.bool true)] }
theorem clO_at (P : Params) : (hd.heap_39 P).lookup 232 = some clO := by kernel_rfl

section
variable {prog : Program} {w : World} {A : Around} {E : Value → Shared → Prop} {s : Shared} {a b d l r : Addr} {o ob orr : Obj} {S T V : List Int} {name : Str} {h : Heap}

theorem os_mro (X : (hd.heap_39 w.params).In h) : Looks (model prog w) h (mroOf (.ref 232)) [.ref 232, .type "set", .type "object"] :=
  (looks_clsIn X (cd := cdO) (by unfold clsIn; rw [clO_at])).andThen .now

theorem os_made (X : (hd.heap_39 w.params).In h) : Looks (model prog w) h (Bind.madeBy (.ref 232)) (some "set.__new__") := by
  intro A Q E s k q
  unfold Bind.madeBy
  refine wpAny_bind (os_mro X A _ E s k ?_)
  rw [List.forIn_cons]
  refine wpAny_bind (wpAny_bind (wpAny_bind (wpAny_bind (wpAny_loadPart (k _ _ (X _ _ (clO_at _))) (wpAny_pure ?_)))))
  exact wpAny_pure (wpAny_pure (wpAny_pure q))

theorem os_base (X : (hd.heap_39 w.params).In h) : Looks (model prog w) h (Bind.staticBase (.ref 232)) (.ref 232) := by
  intro A Q E s k q
  unfold Bind.staticBase
  refine wpAny_bind (os_mro X A _ E s k ?_)
  rw [List.forIn_cons]
  exact wpAny_bind (wpAny_bind (wpAny_bind (os_made X A _ E s k (wpAny_pure (wpAny_pure (wpAny_pure q))))))

theorem os_isType (X : (hd.heap_39 w.params).In h) : Looks (model prog w) h (isType (.ref 232)) true := (Looks.ld (X _ _ (clO_at _))).andThen .now
theorem os_sub (X : (hd.heap_39 w.params).In h) : Looks (model prog w) h (isSubtype (.ref 232) (.type "set")) true := looks_mroIn X (by kernel_rfl)

theorem split_set_new : splitId "set.__new__" = some ("set", "__new__") := by kernel_rfl
theorem kind_set_new : builtinKind "set.__new__" = some .builtinFn := by kernel_rfl
theorem sig_set_new : Manifest.signature? "set.__new__" = some ⟨.any, "set", "set", .cls, [⟨"args", .varPos, false⟩, ⟨"kwargs", .varKw, false⟩]⟩ := by
  rw [signature?_of (id := "set.__new__") (n := ['_', '_', 'w', 'e', 'n', '_', '_']) (o := ['t', 'e', 's']) (by kernel_rfl) PySem.F.owner_set]; kernel_rfl

theorem check_set_new {rest : List Value} {Q : Unit → Shared → Prop} (X : (hd.heap_39 w.params).In s.heap) (q : Q () s) : wpAny (model prog w) A (checkBuiltinCall "set.__new__" ⟨.ref 232 :: rest, []⟩) Q E s := by
  simp only [checkBuiltinCall, kind_set_new, split_set_new, sig_set_new]
  have here : Looks (model prog w) s.heap (Bind.staticBase (.ref 232)) (.ref 232) := os_base X
  have args : Bind.checkArgs "set.__new__" ⟨.any, "set", "set", .cls, [⟨"args", .varPos, false⟩, ⟨"kwargs", .varKw, false⟩]⟩ ⟨.ref 232 :: rest, []⟩ = pure () := by kernel_rfl
  rw [args]
  obtain ⟨hp, g, dr, tt, os⟩ := s
  have L1 := os_isType (prog := prog) X
  have L2 := os_sub (prog := prog) X
  have L3 := os_base (prog := prog) X
  have L4 := os_made (prog := prog) X
  dsimp only at L1 L2 L3 L4
  repeat (first | simp only [bne_self_eq_false, Bool.false_eq_true, if_false, Bool.not_true, beq_self_eq_true, if_true] | lk)
  exact q

theorem new_os {rest : List Value} {R : Result → Shared → Prop} (X : (hd.heap_39 w.params).In s.heap)
    (h : ∀ t : SetTable, t.fill = 0 → R (.ok (.ret (.ref (s.heap.objs.size + 1)))) { s with heap := (s.heap.push (dictOf [] 0)).push { cls := .ref 232, dict := some s.heap.objs.size, data := .set #[] 0 t } }) :
    codeAny (model prog w) A (.call (.builtin "set.__new__") ⟨.ref 232 :: rest, []⟩) R s := by
  refine codeAny_call_builtin PySem.F.plain_set_new PySem.F.entry_set_new (check_set_new X ?_)
  unfold Builtin.«set.__new__» newClass newSet setsByText
  have hC := X _ _ (clO_at _)
  obtain ⟨hp, g, dr, tt, os⟩ := s
  have L1 := os_isType (prog := prog) X
  have L2 := os_sub (prog := prog) X
  dsimp only at L1 L2 hC
  refine wpAny_bind (wpAny_bind (L1.at (wpAny_bind (L2.at (wpAny_pure ?_)))))
  refine wpAny_bind (wpAny_bind (wpAny_bind (wpAny_askSetting (wpAny_pure ?_))))
  refine wpAny_bind (wpAny_alloc ?_)
  show wpAny _ _ (newObjAsIs _ _ _) _ _ _
  unfold newObjAsIs classHasDel
  refine wpAny_bind (wpAny_alloc (wpAny_bind (wpAny_bind (wpAny_load (Heap.get?_push_of_some _ (Heap.get?_push_of_some _ hC)) (wpAny_pure ?_)))))
  refine wpAny_pure (wpAny_pure ?_)
  show R _ _
  rw [Heap.size_push]
  exact h _ rfl
end
end Mine

end

section
open PySem PySem.W PyProof.Rows PySem.Calls
open PySem.Builtin.Frozenset PySem.Builtin PySem.Builtin.ObjectAttr PySem.Builtin.Getset_descriptor
namespace Mine
section
variable {prog : Program} {w : World} {A : Around} {E : Value → Shared → Prop} {s : Shared} {a b d l r : Addr} {o ob orr : Obj} {S T V : List Int} {name : Str} {h : Heap}

abbrev newH (h : Heap) (t : SetTable) : Heap := (h.push (dictOf [] 0)).push { cls := .ref 232, dict := some h.objs.size, data := .set #[] 0 t }

theorem newH_stays (h : Heap) (t : SetTable) : Stays h (newH h t) := fun b x e => Heap.get?_push_of_some _ (Heap.get?_push_of_some _ e)
theorem newH_os (h : Heap) {t : SetTable} (ht : t.fill = 0) : OSat (newH h t) (h.objs.size + 1) h.objs.size (osN h.objs.size) [] := by
  have e1 : (h.push (dictOf [] 0)).objs.size = h.objs.size + 1 := Heap.size_push _ _
  refine ⟨⟨#[], 0, t, ?_, .empty (fits0 ht)⟩, rfl, rfl, ?_⟩
  · have := Heap.get?_push_size (h.push (dictOf [] 0)) (o := { cls := .ref 232, dict := some h.objs.size, data := .set #[] 0 t }) rfl
    rw [e1] at this; exact this
  · exact Heap.get?_push_of_some _ (Heap.get?_push_size _ rfl)

theorem make_os {rest : List Value} {R : Result → Shared → Prop} (X : (hd.heap_39 w.params).In s.heap)
    (hq : ∀ t : SetTable, t.fill = 0 → codeAny (model prog w) (A.under (.builtin "type.__call__" ⟨.ref 232 :: rest, []⟩)) (.call (.ref 44) ⟨.ref (s.heap.objs.size + 1) :: rest, []⟩) (InitBack (s.heap.objs.size + 1) R) { s with heap := newH s.heap t }) :
    codeAny (model prog w) A (.call (.ref 232) ⟨rest, []⟩) R s := by
  have hC := X _ _ (clO_at _)
  have call : Looks (model prog w) s.heap (specialOf (.ref 232) "__call__") (some (.builtin "type.__call__")) := looks_specialIn X (by kernel_rfl)
  have typ : Looks (model prog w) s.heap (isInstance (.ref 232) (.type "type")) true := looks_instIn X (by kernel_rfl)
  have made := os_made (prog := prog) X
  have self : Looks (model prog w) s.heap (isSubtype (.ref 232) (.ref 232)) true := looks_mroIn X (by kernel_rfl)
  have hi : Looks (model prog w) s.heap (typeLookup (.ref 232) "__init__") (some (.ref 44)) := looks_findIn X (by kernel_rfl)
  have hm := os_mro (prog := prog) X
  refine codeAny_of_tree ?_
  show wpAny _ _ (callAny (.ref 232) _) _ _ _
  refine nd_load hC ?_
  show wpAny _ _ (callAny.viaDunder (.ref 232) _) _ _ _
  unfold callAny.viaDunder
  refine wpAny_bind (call.here ?_)
  dsimp only
  rw [tc_bind]
  refine wpAny_bind (wpAny_pure (wpAny_bind (wpAny_pure ?_)))
  refine wpAny_pure (a := Fin.again (.call (.builtin "type.__call__") ⟨.ref 232 :: rest, []⟩)) (And.intro rfl ?_)
  refine codeAny_call_builtin_at (Code.quiet_builtin _ (by decide +kernel)) entry_typeCall (check_slot tc_kind tc_split typ (tc_args _ _ _) ?_)
  unfold Builtin.«type.__call__»
  have X0 := X
  obtain ⟨hp, g, dr, tt, os⟩ := s
  dsimp only at call typ made self hi hm hC
  repeat (first | simp only [List.isEmpty_cons, Bool.false_eq_true, if_false] | with_reducible refine wpAny_call ?_ | lk)
  refine new_os X0 fun t ht => ?_
  dsimp only at hq ⊢
  have k := newH_stays hp t
  have O := newH_os hp ht
  obtain ⟨ox, I, _⟩ := O.inst
  have t1 := I.type (M := model prog w)
  have s1 := self.keeps k
  have i1 := hi.keeps k
  have b1 : Looks (model prog w) (newH hp t) (bindSpecial (.ref 44) (.ref (hp.objs.size + 1))) (.ref 44, [.ref (hp.objs.size + 1)]) := bind_fn (X0.keeps k) _ (by kernel_rfl)
  unfold isInstance callSpecial? specialOf
  repeat (first | with_reducible refine wpAny_call ?_ | lk)
  refine codeAny_mono (hq t ht) fun r s' z => ?_
  rcases r with e | (v | _ | _ | _) <;> first | exact z | exact z.elim | skip
  obtain ⟨rfl, z⟩ := z
  exact wpAny_pure (wpAny_pure z)
end
end Mine

end

section
open PySem PySem.W PyProof.Rows PySem.Calls
namespace Mine

def addU (acc : List Int) (v : Int) : List Int := if v ∈ acc then acc else acc ++ [v]
def uniqL (V : List Int) : List Int := V.foldl addU []

namespace FK
theorem typeCall0 : checkTypeCall "dict" ⟨[], []⟩ = pure () := by kernel_rfl
theorem newCall0 : checkBuiltinCall "dict.__new__" ⟨[.type "dict"], []⟩ = pure () := by kernel_rfl
theorem type_fk : typeOf (.builtin "dict.fromkeys") = pure (.type "classmethod_descriptor") := by show builtinType _ = _; rw [builtinType_eq_fast]; kernel_rfl
theorem entry_fk : entryFor table "dict.fromkeys" = some Builtin.«dict.fromkeys» := entryFor_of_tree (by kernel_rfl)
theorem entry_loop : entryFor table "dict.fromkeys.loop" = some Builtin.«dict.fromkeys.loop» := entryFor_of_tree (by kernel_rfl)
theorem plain_loop : plainId "dict.fromkeys.loop" = true := by decide +kernel
theorem plain_fk : plainId "dict.fromkeys" = true := by decide +kernel
theorem type_dict : isType (.type "dict") = pure true := rfl
theorem owner_fk : (kfb_private% "ownerAndName") "dict.fromkeys" = ("dict", "fromkeys") := by first | decide +kernel | kernel_rfl
abbrev bnd : Obj := { cls := .type "builtin_function_or_method", data := .fields #[.builtin "dict.fromkeys", .type "dict"] }
theorem args_init1 (a : Value) : argsOk "dict.__init__" ⟨[a], []⟩ := by unfold argsOk; kernel_rfl
theorem check_fk (a : Value) : checkBoundCall "dict.fromkeys" ⟨[.type "dict", a], []⟩ = pure () := by first | kernel_rfl | rfl

section
variable {prog : Program} {w : World} {A : Around} {E : Value → Shared → Prop} {s : Shared} {a b d l r : Addr} {S T V : List Int}

theorem code_new {Q₁ : Value → Shared → Prop} (h : Q₁ (.ref s.heap.objs.size) { s with heap := s.heap.push { cls := .type "dict", data := .dict #[] } }) :
    codeAny (model prog w) A (.call (.builtin "dict.__new__") ⟨[.type "dict"], []⟩) (wants Q₁ E) s := by
  refine codeAny_call_builtin PySem.F.kt_plain_dict_new PySem.F.kt_entry_dict_new (wpAny_of_eq newCall0 ?_)
  have hsub := PySem.F.kt_sub_dict
  have hmro := PySem.F.kt_mro_dict
  obtain ⟨hp, g, d, tk, os⟩ := s
  unfold Builtin.«dict.__new__»
  wp_walk
  exact h

theorem call_dict0 {Q : Value → Shared → Prop} (h : Q (.ref s.heap.objs.size) { s with heap := s.heap.push { cls := .type "dict", data := .dict #[] } }) :
    wpAny (model prog w) A (call (.type "dict") []) Q E s := by
  refine callType_codes (Q₁ := fun obj s₁ => obj = .ref s.heap.objs.size ∧ s₁ = { s with heap := s.heap.push { cls := .type "dict", data := .dict #[] } }) PySem.F.kt_called_dict typeCall0 PySem.F.entry_dict_init (code_new ⟨rfl, rfl⟩) ?_
  rintro obj s₁ ⟨rfl, rfl⟩
  have hnew : (s.heap.push { cls := .type "dict", data := .dict #[] }).DictOf (PySem.intKind prog w) s.heap.objs.size [] := Heap.DictOf.new s.heap
  refine ⟨hnew.typeIs, args_init1 _, ?_⟩
  unfold Builtin.«dict.__init__»
  refine wpAny_bind ?_
  unfold Builtin.Dict.selfAndRest
  refine wpAny_bind (wpAny_notOrdered_dict hnew.typeIs ?_)
  show wpAny _ _ (pure (s.heap.objs.size, ([] : List Value))) _ _ _
  refine wpAny_pure ?_
  show wpAny _ _ (Builtin.Dict.addKeywords s.heap.objs.size [] >>= _) _ _ _
  exact wpAny_bind (wpAny_pure (wpAny_pure ⟨rfl, h⟩))

theorem stored_keys (kvs : List (Int × Value)) (k : Int) (v : Value) : (stored kvs k v).map (·.1) = addU (kvs.map (·.1)) k := by
  unfold stored addU
  by_cases h : k ∈ kvs.map (·.1)
  · rw [if_pos h, if_pos]
    · exact keys_map_store kvs k v
    · obtain ⟨p, hp, e⟩ := List.mem_map.mp h
      exact List.any_eq_true.mpr ⟨p, hp, by simpa using e⟩
  · rw [if_neg h, if_neg]
    · simp
    · intro q
      obtain ⟨p, hp, e⟩ := List.any_eq_true.mp q
      exact h (List.mem_map.mpr ⟨p, hp, by simpa using e⟩)

theorem loop {vs : List Value} : ∀ (m k : Nat) {s : Shared} {kvs : List (Int × Value)} {it : Addr} {A : Around} {R : Result → Shared → Prop}, m = V.length - k → A.handled = none → s.heap.IsList l vs.toArray → IntsAre vs V → V.length ≤ 1000 → s.heap.IsListIter it l k →
    s.heap.DictOf (PySem.intKind prog w) d kvs → kvs.length ≤ k → d ≠ it → d ≠ l → it ≠ l → k ≤ V.length →
    (∀ h' tk kvs', kvs'.map (·.1) = (V.drop k).foldl addU (kvs.map (·.1)) → kvs'.length ≤ V.length → h'.DictOf (PySem.intKind prog w) d kvs' → (∀ b x, b ≠ d → b ≠ it → s.heap.get? b = some x → h'.get? b = some x) → R (.ok (.ret (.ref d))) { s with heap := h', toks := tk }) →
    codeAny (model prog w) A (.builtin "dict.fromkeys.loop" ⟨[.ref d, .ref it, .none], []⟩) R s
  | 0, k, s, kvs, it, A, R, hm, hh, hl, hi, hV, hit, H, hkl, n1, n2, n3, hk, h => by
    have hkV : k = V.length := by omega
    subst hkV
    refine codeAny_builtin entry_loop ?_
    rw [Around.under_plainId plain_loop _]
    show wpAny _ A.in1 (pyNext (.ref it) >>= _) _ _ s
    refine wpAny_bind (wpAny_pyNext_list_end hh hit hl (by simp [hi.length]) fun h' eb => ?_)
    show wpAny _ A.in1 (ret (.ref d)) _ _ _
    exact wpAny_pure (h h' s.toks kvs (by simp) hkl (H.extBut eb n1) fun b x _ hb e => eb b x hb e)
  | m + 1, k, s, kvs, it, A, R, hm, hh, hl, hi, hV, hit, H, hkl, n1, n2, n3, hk, h => by
    have hlt : k < V.length := by omega
    have hlen : vs.length = V.length := hi.length
    obtain ⟨tk, hv⟩ := PyProof.Rows.IntsAre.int_at hi k _ (List.getElem?_eq_getElem (by omega : k < vs.length))
    have hx : vs.toArray[k]? = some (.int (V.getD k 0) tk) := by
      rw [List.getElem?_toArray, List.getElem?_eq_getElem (by omega : k < vs.length), hv]
    have hvk : V.getD k 0 = V[k] := by rw [List.getD_eq_getElem?_getD, List.getElem?_eq_getElem hlt]; rfl
    rw [hvk] at hx
    refine codeAny_builtin entry_loop ?_
    rw [Around.under_plainId plain_loop _]
    show wpAny _ A.in1 (pyNext (.ref it) >>= _) _ _ s
    refine wpAny_bind (wpAny_pyNext_list_item hit hl hx fun h1 hit1 sb1 => ?_)
    have H1 := H.sameBut sb1 n1
    show wpAny _ A.in1 (typeOf (.ref d) >>= _) _ _ _
    refine wpAny_bind (wpAny_typeOf (s := { s with heap := h1 }) H1.typeIs ?_)
    rw [show (Value.type "dict" == Value.type "dict") = true by decide]
    simp only [if_true]
    refine wpAny_bind (wpAny_pure (wpAny_bind (wpAny_holding ?_)))
    refine wpAny_dictSet_pairs (s := { s with heap := h1 }) (knd := PySem.intKind prog w) (k := V[k]) (intKind_is _ _ _ _) H1 (fun h2 H2 sb2 => ?_) (by rw [sizeLine_eq]; omega)
    refine wpAny_pure ⟨plainId_quiet plain_loop _, ?_⟩
    have hl2 : h2.IsList l vs.toArray := by
      obtain ⟨ol, hol, r⟩ := hl
      exact ⟨ol, (sb2.2 l (Ne.symm n2)).trans ((sb1.2 l (Ne.symm n3)).trans hol), r⟩
    have hit2 : h2.IsListIter it l (k + 1) := by
      obtain ⟨oi, hoi, r⟩ := hit1
      exact ⟨oi, (sb2.2 it (Ne.symm n1)).trans hoi, r⟩
    have hst := stored_length_le kvs V[k] .none
    refine loop m (k + 1) (s := { s with heap := h2, toks := s.toks + 1 }) (by omega) hh hl2 hi hV hit2 H2 (by omega) n1 n2 n3 (by omega) fun h3 tk3 kv3 e3 l3 H3 k3 => ?_
    refine h h3 tk3 kv3 ?_ l3 H3 fun b x hb hb' e => k3 b x hb hb' ((sb2.2 b hb).trans ((sb1.2 b hb').trans e))
    rw [e3, ← List.getElem_cons_drop hlt, List.foldl_cons, stored_keys]

theorem call_of {vs : List Value} {x : Addr} {Q : Value → Shared → Prop} (hh : A.handled = none) (ho : s.heap.get? x = some bnd) (hl : s.heap.IsList l vs.toArray) (hi : IntsAre vs V) (hV : V.length ≤ 1000)
    (h : ∀ h' tk kvs, kvs.map (·.1) = uniqL V → kvs.length ≤ V.length → h'.DictOf (PySem.intKind prog w) s.heap.objs.size kvs → Stays s.heap h' → Q (.ref s.heap.objs.size) { s with heap := h', toks := tk }) :
    wpAny (model prog w) A (call (.ref x) [.ref l]) Q E s := by
  refine wpAny_call (codeAny_of_tree ?_)
  show wpAny _ A.in1 (callAny (.ref x) ⟨[.ref l], []⟩) _ _ s
  simp only [callAny]
  refine wpAny_bind (wpAny_load ho ?_)
  simp only [show (Value.type "builtin_function_or_method" == Value.type "method" || Value.type "builtin_function_or_method" == Value.type "builtin_function_or_method" || Value.type "builtin_function_or_method" == Value.type "method-wrapper") = true by decide, if_true]
  refine KFB.if_so (by decide) ?_
  refine wpAny_bind (wpAny_of_eq (a := ()) (check_fk _) ?_)
  refine wpAny_bind (wpAny_pure (wpAny_pure ?_))
  refine ⟨plainId_quiet plain_fk _, codeAny_builtin entry_fk ?_⟩
  rw [Around.under_plainId plain_fk _]
  unfold Builtin.«dict.fromkeys»
  refine wpAny_bind (wpAny_of_eq (a := true) type_dict ?_)
  refine KFB.if_not rfl ?_
  refine wpAny_bind (wpAny_of_eq (a := true) PySem.F.kt_sub_dict ?_)
  refine KFB.if_not rfl ?_
  refine KFB.if_not rfl ?_
  refine wpAny_bind (wpAny_bind (wpAny_rule (wpAny_pure (wpAny_bind (wpAny_pure ?_)))))
  dsimp only
  refine wpAny_bind (call_dict0 (wpAny_holding ?_))
  have k1 := Stays.push (h := s.heap) { cls := .type "dict", data := .dict #[] }
  have hnew : (s.heap.push { cls := .type "dict", data := .dict #[] }).DictOf (PySem.intKind prog w) s.heap.objs.size [] := Heap.DictOf.new s.heap
  have hl1 : (s.heap.push { cls := .type "dict", data := .dict #[] }).IsList l vs.toArray := by obtain ⟨ol, hol, r⟩ := hl; exact ⟨ol, k1 _ _ hol, r⟩
  generalize hH : s.heap.push { cls := .type "dict", data := .dict #[] } = h1 at k1 hnew hl1 ⊢
  refine wpAny_bind (wpAny_typeOf (s := { s with heap := h1 }) hl1.typeIs ?_)
  refine wpAny_bind (wpAny_typeOf (s := { s with heap := h1 }) hnew.typeIs ?_)
  rw [if_neg (by decide)]
  refine wpAny_bind (wpAny_typeOf (s := { s with heap := h1 }) hnew.typeIs ?_)
  rw [if_neg (by decide)]
  refine wpAny_bind (wpAny_pyIter_list (s := { s with heap := h1 }) hl1 ?_)
  have hdl : s.heap.objs.size ≠ l := by obtain ⟨ol, hol, _⟩ := hl; exact (ne_size hol).symm
  have hd1 : s.heap.objs.size ≠ h1.objs.size := by obtain ⟨o', _, _, ho', _⟩ := hnew; exact ne_size ho'
  have hl1' : l ≠ h1.objs.size := by obtain ⟨ol, hol, _⟩ := hl1; exact ne_size hol
  refine wpAny_pure ⟨plainId_quiet plain_loop _, ?_⟩
  have k2 := Stays.push (h := h1) { cls := .type "list_iterator", data := .fields #[.ref l, .int 0 0] }
  refine loop V.length 0 (s := { s with heap := h1.push { cls := .type "list_iterator", data := .fields #[.ref l, .int 0 0] } }) (V := V) (vs := vs) (l := l) (kvs := []) rfl hh ?_ hi hV ?_ (hnew.push _) (Nat.le_refl _) hd1 hdl (Ne.symm hl1') (Nat.zero_le _) fun h' tk kvs' e lk H' kp => ?_
  · obtain ⟨ol, hol, r⟩ := hl1; exact ⟨ol, k2 _ _ hol, r⟩
  · exact ⟨_, Heap.get?_push_size h1 rfl, rfl, rfl⟩
  · exact h h' tk kvs' e lk H' fun b x e => kp b x (fun q => by subst q; rw [get_size] at e; cases e) (fun q => by subst q; have := k1 _ _ e; rw [get_size] at this; cases this) (k2 b x (k1 b x e))

end
end FK
end Mine

end

section
open PySem PySem.W PyProof.Rows PySem.Calls
namespace Mine
namespace FK
section
variable {prog : Program} {w : World} {M : Model} {A : Around} {E : Value → Shared → Prop} {s : Shared} {h₀ : Heap} {L : Addr} {m : PySem.Str → Option Value} {news : List (Addr × Obj)}

theorem run_get {P : Fin → Shared → Prop} (h : P (.done (.ret (.ref s.heap.objs.size))) { s with heap := s.heap.push bnd }) :
    wpAny M A (Builtin.«classmethod_descriptor.__get__» ⟨[.builtin "dict.fromkeys", .none, .type "dict"], []⟩) P E s := by
  unfold Builtin.«classmethod_descriptor.__get__»
  refine wpAny_bind (wpAny_of_eq (a := (.builtin "dict.fromkeys", none, some (.type "dict"))) (by first | rfl | kernel_rfl) ?_)
  simp only [owner_fk]
  refine wpAny_bind (wpAny_of_eq (a := .type "dict") rfl ?_)
  refine wpAny_bind (wpAny_of_eq (a := true) type_dict ?_)
  refine KFB.if_not rfl ?_
  refine wpAny_bind (wpAny_of_eq (a := true) PySem.F.kt_sub_dict ?_)
  refine KFB.if_not rfl ?_
  exact wpAny_bind (wpAny_newObj_type (wpAny_pure h))

theorem getm {pl : Sem Bool} {Q : Value × List Value → Shared → Prop} (F : Fr h₀ L s.heap m) (N : News h₀ L s.heap news) (X₀ : (hd.heap_39 w.params).In h₀)
    (h : ∀ x h', Fr h₀ L h' m → News h₀ L h' ((x, bnd) :: news) → Q (.ref x, []) { s with heap := h', toks := s.toks + 1 }) :
    wpAny (model prog w) A (getMethod (.type "dict") (PySem.Str.ofString "fromkeys") pl) Q E s := by
  have X := X₀.keeps F.keep
  have e : findCls (hd.heap_39 w.params) (.type "dict") (.type "type") (PySem.Str.ofString "fromkeys") = some (.get (.builtin "classmethod_descriptor.__get__") (.builtin "dict.fromkeys") .none (.type "dict")) := by kernel_rfl
  have hstub : opaqueClassAbove (.type "dict") = pure none := by unfold opaqueClassAbove; dsimp only; rw [show Manifest.isStub "dict" = false by decide +kernel]; rfl
  have ht : typeOf (.type "dict") = pure (.type "type") := by first | rfl | kernel_rfl
  have L0 : Looks (model prog w) s.heap (typeOf (.type "dict")) (.type "type") := Looks.of_pure ht
  have hg : findIn (hd.heap_39 w.params) (.type "type") "__getattribute__" = some (some (.builtin "type.__getattribute__")) := type_tga
  unfold getMethod specialOf
  refine wpAny_bind (wpAny_bind (L0.here ((looks_findIn X hg).here ?_)))
  dsimp only
  rw [if_pos canon_tga]
  refine wpAny_bind (wpAny_mono (Q := fun v => Q (v, [])) (E := E) ?_ (fun _ _ z => wpAny_pure z) fun _ _ z => z)
  have LO : Looks (model prog w) s.heap (opaqueClassAbove (.type "dict")) none := Looks.of_pure hstub
  refine cls_open X LO L0 hg (looks_hook X (r := none) (by rfl)) (by show subIn _ _ _ = _; rfl) e ?_
  show wpAny _ _ (holding [.builtin "dict.fromkeys"] (call (.builtin "classmethod_descriptor.__get__") [.builtin "dict.fromkeys", .none, .type "dict"]) >>= fun v => ret v) _ _ _
  refine wpAny_bind (wpAny_holding (wpAny_call_entry KFB.slot_get type_fk KFB.entry_get (run_get ⟨_, rfl, wpAny_pure (wpAny_pure (h _ _ (F.push _) (News.push F N _)))⟩) (KFB.args_get _ _ _)))

theorem callWith_ {pos : Pos} {u : Addr} {first : List Value} {env : Env} {e : Expr} {rest : List Expr} {Q : Value → Shared → Prop}
    (h : wpAny M A (spliced (backTo pos (starEach (e :: rest) env))) (fun vs s₁ => s₁.heap.get? u = some bnd ∧ wpAny M A (call (.ref u) (first ++ vs)) Q E s₁) E s)
    (he : starEach (e :: rest) env = (false, eval e env) :: starEach rest env := by rfl) (hplain : (backTo pos (starEach rest env)).any (·.1) = false := by rfl) :
    wpAny M A (callWith pos (.ref u) first (backTo pos (starEach (e :: rest) env)) []) Q E s := by
  rw [he] at h ⊢
  have hpl : (backTo pos ((false, eval e env) :: starEach rest env)).any (·.1) = false := by show (false || (backTo pos (starEach rest env)).any (·.1)) = false; rw [hplain]; rfl
  unfold callWith
  refine wpAny_bind (wpAny_holding (wpAny_mono (evalArgs_plain (f := .ref u) (Q := fun x s₁ => s₁.heap.get? u = some bnd ∧ wpAny M A (call (.ref u) (first ++ x.pos) x.kw) Q E s₁) h) (fun x s₁ h₁ => wpAny_bind (wpAny_standAt ?_)) fun _ _ x => x))
  obtain ⟨ho, hcall⟩ := h₁
  simp only [hpl, List.any_nil, Bool.or_false]
  refine wpAny_bind (m := keeperOf (.ref u)) ?_
  unfold keeperOf
  refine wpAny_bind (wpAny_load ho ?_)
  simp only [show (Value.type "builtin_function_or_method" != Value.type "method") = true by decide, show (Value.type "builtin_function_or_method" == Value.type "builtin_function_or_method" || Value.type "builtin_function_or_method" == Value.type "method-wrapper") = true by decide, if_true]
  refine wpAny_pure ?_
  exact wpAny_bind (wpAny_mono hcall (fun r s₂ hr => wpAny_bind (wpAny_holding (wpAny_point (wpAny_pure hr)))) fun _ _ x => x)
end
end FK

section
variable {prog : Program} {w : World} {A : Around} {s : Shared} {K : Frag} {p : Program} {loose : List Str} {mean : ExcName → Option Value} {mg mb : Str → Option Value}

theorem enter {R : Result → Shared → Prop} {name qual : Str} {params : Arguments} {body : List Stmt} {scope : Scope} {dV kV doc pm cdv ct oc : Value} {an od : Option Addr} {osl : Array (Option Value)} {f : Addr} {args : Args} (binds : List (Str × Value))
    (X : K.In s.heap) (hlim : s.heap.NoLimit)
    (ho : K.lookup f = some ⟨oc, od, .func (fnOf name qual params body scope dV kV doc pm an cdv ct), osl⟩) (hcd : codeIn K cdv qual = true) (hroom : A.depth < recursionLimit)
    (hbind : BindsTo s (fnOf name qual params body scope dV kV doc pm an cdv ct) args binds) (hloc : ∀ y ∈ binds, scope.names.lookup y.1 = some .local)
    (h : ∀ h₁, Fr s.heap s.heap.objs.size h₁ (fun y => binds.reverse.lookup y) → News s.heap s.heap.objs.size h₁ [] →
      wpAny (model prog w) (A.deeper (envOf qual scope s.heap.objs.size f cdv)) (execs body (envOf qual scope s.heap.objs.size f cdv))
        (fun fl s' => R (.ok (.ret (match fl with | .ret v => v | _ => .none))) s') (fun _ _ => False)
        { s with heap := h₁, toks := s.toks + binds.length })
    (hco : scope.isCoroutine = false := by rfl) (hgen : scope.isGenerator = false := by rfl) (hk : scope.kind = .function := by rfl)
    (hcell : ∀ x ∈ scope.names, x.2 ≠ .cell := by decide) : codeAny (model prog w) A (.call (.ref f) args) R s := by
  refine codeAny_call_def (fd := fnOf name qual params body scope dV kV doc pm an cdv ct) (body := body) (binds := binds) hroom (X _ _ ho) rfl hlim (codeRec_of X hcd) rfl hbind hcell hloc (fun h₁ hns hk₁ => ?_) hco hgen hk
  exact wpAny_mono (h h₁ ⟨hns, hk₁, Nat.le_refl _⟩ News.nil) (fun _ _ z => z) fun _ _ z => z.elim
end

theorem uniq {w : World} {A : Around} {s : Shared} {p : Program} {loose : List Str} {mean : ExcName → Option Value} {mg mb : Str → Option Value} {l : Addr} {R : Result → Shared → Prop} {vs : List Value} {V : List Int}
   (X : (hd.heap_39 w.params).In s.heap) (T : Top p loose mean mg mb s.heap) (hroom : A.depth < recursionLimit) (hh : A.handled = none) (hl : s.heap.IsList l vs.toArray) (hi : IntsAre vs V) (hV : V.length ≤ 1000)
   (hR : ∀ h' tk B us n, Stays s.heap h' → s.heap.get? B = none → h'.get? B = some (liObj us n) → IntsAre us (uniqL V) → R (.ok (.ret (.ref B))) { s with heap := h', toks := tk }) :
   codeAny (model PySem.Challenge.rw_ae5044_01.row.prog w) A (.call (.ref 28) ⟨[.ref l], []⟩) R s := by
  revert X; k_fill; intro X
  refine enter [("seq", .ref l)] X T.nolimit (by k_is) (by k_is) hroom (BindsTo.of_eq rfl) (locs rfl) ?_
  intro h₁ F N
  k_steps
  refine FK.getm F N X fun x h2 F2 N2 => ?_
  refine FK.callWith_ ?_
  k_steps
  · exact N2.get (.head _)
  refine FK.call_of (s := ⟨h2, _, _, _, _⟩) hh (N2.get (.head _)) (by obtain ⟨ol, hol, r⟩ := hl; exact ⟨ol, F2.keep _ _ hol, r⟩) hi hV fun h3 tk3 kvs ek lk D3 k3 => ?_
  have F3 := F2.keeps k3
  have N3 := N2.grown k3
  k_steps
  obtain ⟨ep, hat⟩ := D3.dictAt
  have e1 : kvs.length = (uniqL V).length := by rw [← ek, List.length_map]
  refine kdl_N (s := ⟨h3, _, _, _, _⟩) (kdl_dict (knd := PySem.intKind PySem.Challenge.rw_ae5044_01.row.prog w) (kvs := kvs) (ep := ep) (F2.notModules (modules_low T.nolimit))) hh F3 N3 hat (by rw [sizeLine_eq]; omega) fun B c h4 tk4 us F4 N4 l4 hlen hus => ?_
  refine hR h4 tk4 B us c F4.keep (N4.fresh (.head _)) (N4.get (.head _)) ?_
  refine kdy_ints (by rw [hlen, e1]) fun j v hj => ?_
  obtain ⟨k, x', hk, hkv⟩ := hus j v hj
  obtain ⟨t, rfl⟩ := Value.isInt_shape hkv
  exact ⟨k, by rw [← ek, List.getElem?_map, hk]; rfl, t, rfl⟩
end Mine

end

section
open PySem PySem.W PyProof.Rows PySem.Calls
namespace Mine

structure Halt (P : Prop) : Prop where
  out : P
theorem halt_at {P : Prop} (h : Halt P) : P := h.out
local macro_rules | `(tactic| walk_at "call builtin:set.update") => `(tactic| refine Mine.halt_at ?_)
local macro_rules | `(tactic| walk_at "call builtin:set.__new__") => `(tactic| refine Mine.halt_at ?_)
local macro_rules | `(tactic| walk_at "setAttr ref") => `(tactic| refine Mine.halt_at ?_)

abbrev osD (o : Obj) (es : Array (Int × Value)) (ep : Nat) (t : SetTable) : Obj := { o with data := .set es ep t }

section
variable {prog : Program} {w : World} {A : Around} {E : Value → Shared → Prop} {s : Shared} {h₀ : Heap} {L : Addr} {m : PySem.Str → Option Value} {news : List (Addr × Obj)} {x d l : Addr} {o : Obj} {es : Array (Int × Value)} {ep : Nat} {t : SetTable} {S V : List Int}

theorem fn_but {h h' : Heap} {o' : Obj} (F : Fr h₀ L h m) (N : News h₀ L h ((x, o) :: news)) (hne : ∀ p ∈ news, p.1 ≠ x) (k : KeepBut x h h') (hg : h'.get? x = some o') : Fr h₀ L h' m ∧ News h₀ L h' ((x, o') :: news) := by
  have D := N (x, o) (.head _)
  obtain ⟨oL, es, ep, hL, r⟩ := F.ns
  refine ⟨⟨⟨oL, es, ep, k _ _ (Ne.symm D.2.1) hL, r⟩, fun b z q => k b z (fun e => ?_) (F.keep b z q), F.above⟩, fun p hp => ?_⟩
  · have := D.2.2; rw [← e, q] at this; cases this
  · rcases List.mem_cons.mp hp with rfl | hp
    · exact ⟨hg, D.2⟩
    · have P := N p (.tail _ hp); exact ⟨k _ _ (hne p hp) P.1, P.2⟩

theorem new_osN {rest : List Value} {R : Result → Shared → Prop} (F : Fr h₀ L s.heap m) (N : News h₀ L s.heap news) (X₀ : (hd.heap_39 w.params).In h₀)
    (h : ∀ t x d h', t.fill = 0 → d ≠ x → (∀ p ∈ news, p.1 ≠ x) → Fr h₀ L h' m → News h₀ L h' ((x, osD (osN d) #[] 0 t) :: (d, dictOf [] 0) :: news) → R (.ok (.ret (.ref x))) { s with heap := h' }) :
    codeAny (model prog w) A (.call (.builtin "set.__new__") ⟨.ref 232 :: rest, []⟩) R s := by
  refine new_os (X₀.keeps F.keep) fun t ht => ?_
  have N' := (N.push F (dictOf [] 0)).push (F.push _) { cls := .ref 232, dict := some s.heap.objs.size, data := .set #[] 0 t }
  rw [Heap.size_push] at N'
  refine h t _ _ _ ht (Nat.ne_of_lt (Nat.lt_succ_self _)) (fun p hp => ?_) ((F.push _).push _) N'
  exact Nat.ne_of_lt (Nat.lt_succ_of_lt (Heap.lt_size (N p hp).1))

theorem osat_of (N : News h₀ L s.heap ((x, osD o es ep t) :: (d, dictOf [] 0) :: news)) (H : SetIs es t S) (hc : o.cls = .ref 232) (hd : o.dict = some d) : OSat s.heap x d o S :=
  ⟨⟨es, ep, t, N.get (.head _), H⟩, hc, hd, N.get (.tail _ (.head _))⟩

theorem set_listN {old : Array (Option Value)} {v : Value} {Q : Unit → Shared → Prop} (hold : old = #[] ∨ ∃ z, old = #[some z]) (F : Fr h₀ L s.heap m) (N : News h₀ L s.heap ((x, osD { cls := .ref 232, dict := some d, slots := old } es ep t) :: (d, dictOf [] 0) :: news)) (X₀ : (hd.heap_39 w.params).In h₀) (H : SetIs es t S)
    (hdx : d ≠ x) (hne : ∀ p ∈ news, p.1 ≠ x)
    (h : ∀ h', Fr h₀ L h' m → News h₀ L h' ((x, osD { cls := .ref 232, dict := some d, slots := #[some v] } es ep t) :: (d, dictOf [] 0) :: news) → Q () { s with heap := h', toks := s.toks + 1 }) :
    wpAny (model prog w) A (setAttr (.ref x) "_list" v) Q E s := by
  refine os_set_list (X₀.keeps F.keep) (osat_of N H rfl rfl) ?_
  have U := news_upd (pre := []) (d := x) (f := fun x => { x with slots := (x.slots ++ Array.replicate (0 + 1 - x.slots.size) none).setIfInBounds 0 (some v) }) (o' := osD { cls := .ref 232, dict := some d, slots := #[some v] } es ep t) F N (fun _ h => nomatch h) (fun p hp => by
    rcases List.mem_cons.mp hp with rfl | hp
    · exact hdx
    · exact hne p hp) (by rcases hold with rfl | ⟨z, rfl⟩ <;> rfl) rfl
  exact h _ U.1 U.2

theorem stub_set : Manifest.isStub "set" = false := by decide +kernel
theorem type_set : typeOf (.type "set") = pure (.type "type") := by rfl
theorem get_setm {name : Str} {id : String} {pl : Sem Bool} {Q : Value × List Value → Shared → Prop} (F : Fr h₀ L s.heap m) (X₀ : (hd.heap_39 w.params).In h₀) (e : findCls (hd.heap_39 w.params) (.type "set") (.type "type") name = some (.val (.builtin id))) (hh : handedIn (.builtin id) = true)
    (h : Q (.builtin id, []) { s with toks := s.toks + 1 }) : wpAny (model prog w) A (getMethod (.type "set") name pl) Q E s :=
  method_type (K := hd.heap_39 w.params) (T := "set") (v := .builtin id) F X₀ type_set stub_set e hh h

theorem set_updateN {vs : List Value} {Q : Value → Shared → Prop} (hh : A.handled = none) (F : Fr h₀ L s.heap m) (N : News h₀ L s.heap ((x, osD o es ep t) :: news)) (X₀ : (hd.heap_39 w.params).In h₀) (H : SetIs es t S) (hc : o.cls = .ref 232)
    (hl : s.heap.IsList l vs.toArray) (hi : IntsAre vs V) (hsm : ∀ i ∈ V, Sm i) (hne : ∀ p ∈ news, p.1 ≠ x)
    (h : ∀ h' tk S' es' ep' t', (∀ i, i ∈ S' ↔ i ∈ S ∨ i ∈ V) → SetIs es' t' S' → Fr h₀ L h' m → News h₀ L h' ((x, osD o es' ep' t') :: news) → Q .none { s with heap := h', toks := tk }) :
    wpAny (model prog w) A (call (.builtin "set.update") [.ref x, .ref l]) Q E s := by
  refine set_update hh hl hi hsm ⟨es, ep, t, N.get (.head _), H⟩ (os_cls (X₀.keeps F.keep) hc) fun h' tk S' hS' HS' k => ?_
  obtain ⟨es', ep', t', hg', H'⟩ := HS'
  obtain ⟨F', N'⟩ := fn_but F N hne k hg'
  exact h h' tk S' es' ep' t' hS' H' F' N'
end

theorem fromList {w : World} {A : Around} {s : Shared} {p : Program} {loose : List Str} {mean : ExcName → Option Value} {mg mb : Str → Option Value} {l : Addr} {v : Value} {R : Result → Shared → Prop} {vs : List Value} {V : List Int} {n : Nat}
   (X : (hd.heap_39 w.params).In s.heap) (T : Top p loose mean mg mb s.heap) (hroom : A.depth < recursionLimit) (hh : A.handled = none) (hl : s.heap.get? l = some (liObj vs n)) (hi : IntsAre vs V) (hV : V.Nodup) (hsm : ∀ i ∈ V, Sm i)
   (hR : ∀ h' tk x d es ep t, Stays s.heap h' → s.heap.get? x = none → s.heap.get? d = none → d ≠ x → h'.get? x = some (osD (osO d l) es ep t) → SetIs es t V → h'.get? d = some (dictOf [] 0) → R (.ok (.ret (.ref x))) { s with heap := h', toks := tk }) :
   codeAny (model PySem.Challenge.rw_ae5044_01.row.prog w) A (.call (.ref 58) ⟨[v, .ref l], []⟩) R s := by
  revert X; k_fill; intro X
  refine enter [("self", v), ("new_list", .ref l)] X T.nolimit (by k_is) (by k_is) hroom (BindsTo.of_eq rfl) (locs rfl) ?_
  intro h₁ F N
  k_steps
  refine ⟨wpAny_call (new_osN (s := ⟨h₁, _, _, _, _⟩) F N X fun t x d h2 ht hdx _ F2 N2 => ?_)⟩
  k_steps
  rename_i h3 F3 N3
  have H0 : SetIs #[] t [] := .empty (fits0 ht)
  refine ⟨set_listN (s := ⟨h3, _, _, _, _⟩) (.inl rfl) F3 N3 X H0 hdx (fun _ h => nomatch h) fun h4 F4 N4 => ?_⟩
  k_steps
  refine get_setm F4 X (id := "set.update") (by kernel_rfl) (by decide +kernel) ?_
  k_steps
  refine ⟨set_updateN (s := ⟨h4, _, _, _, _⟩) hh F4 N4 X H0 rfl ⟨_, F4.keep _ _ hl, rfl, n, rfl⟩ hi hsm (fun p hp => ?_) fun h5 tk5 S' es' ep' t' hS' H' F5 N5 => ?_⟩
  · rw [List.mem_singleton] at hp; subst hp; exact hdx
  k_steps
  exact hR h5 _ x d _ _ _ F5.keep (N5.fresh (.head _)) (N5.fresh (.tail _ (.head _))) hdx (N5.get (.head _)) (H'.of_mem hV fun i => by rw [hS' i]; simp) (N5.get (.tail _ (.head _)))
end Mine

end

section
open PySem PySem.W PyProof.Rows PySem.Calls
namespace Mine

abbrev tuObj (vs : List Value) : Obj := { cls := .type "tuple", data := .seq vs.toArray }

section
variable {prog : Program} {w : World} {A : Around} {s : Shared} {K : Frag} {p : Program} {loose : List Str} {mean : ExcName → Option Value} {mg mb : Str → Option Value} {news : List (Addr × Obj)}

abbrev hid (h : Heap) (news : List (Addr × Obj)) : Heap := hideAll h (news.map (·.1))

theorem hid_stays {g h : Heap} {news : List (Addr × Obj)} (k : Stays g h) (hn : ∀ p ∈ news, g.get? p.1 = none) : Stays g (hid h news) := fun b x e => hideAll_get _ (k b x e) fun hb => by
  obtain ⟨p, hp, rfl⟩ := List.mem_map.mp hb
  rw [hn p hp] at e; cases e

theorem enterN {R : Result → Shared → Prop} {name qual : Str} {params : Arguments} {body : List Stmt} {scope : Scope} {dV kV doc pm cdv ct oc : Value} {an od : Option Addr} {osl : Array (Option Value)} {f : Addr} {args : Args} (binds : List (Str × Value))
    (hn : ∀ p ∈ news, s.heap.get? p.1 = some p.2) (X : K.In s.heap) (hlim : s.heap.NoLimit)
    (ho : K.lookup f = some ⟨oc, od, .func (fnOf name qual params body scope dV kV doc pm an cdv ct), osl⟩) (hcd : codeIn K cdv qual = true) (hroom : A.depth < recursionLimit)
    (hbind : BindsTo s (fnOf name qual params body scope dV kV doc pm an cdv ct) args binds) (hloc : ∀ y ∈ binds, scope.names.lookup y.1 = some .local)
    (h : ∀ h₁ L, Fr (hid s.heap news) L h₁ (fun y => binds.reverse.lookup y) → News (hid s.heap news) L h₁ news →
      wpAny (model prog w) (A.deeper (envOf qual scope L f cdv)) (execs body (envOf qual scope L f cdv))
        (fun fl s' => R (.ok (.ret (match fl with | .ret v => v | _ => .none))) s') (fun _ _ => False)
        { s with heap := h₁, toks := s.toks + binds.length })
    (hco : scope.isCoroutine = false := by rfl) (hgen : scope.isGenerator = false := by rfl) (hk : scope.kind = .function := by rfl)
    (hcell : ∀ x ∈ scope.names, x.2 ≠ .cell := by decide) : codeAny (model prog w) A (.call (.ref f) args) R s := by
  refine codeAny_call_def (fd := fnOf name qual params body scope dV kV doc pm an cdv ct) (body := body) (binds := binds) hroom (X _ _ ho) rfl hlim (codeRec_of X hcd) rfl hbind hcell hloc (fun h₁ hns hk₁ => ?_) hco hgen hk
  exact wpAny_mono (h h₁ s.heap.objs.size ⟨hns, fun b o e => hk₁ b o (of_hideAll _ e), Nat.le_of_eq (hideAll_size _ _)⟩ (fun p hp => ⟨hk₁ _ _ (hn p hp), Nat.ne_of_lt (Heap.lt_size (hn p hp)), hideAll_none _ (List.mem_map_of_mem hp)⟩)) (fun _ _ z => z) fun _ _ z => z.elim

theorem enterS {R : Result → Shared → Prop} {name qual : Str} {params : Arguments} {body : List Stmt} {scope : Scope} {dV kV doc pm cdv ct oc : Value} {an od : Option Addr} {osl : Array (Option Value)} {f : Addr} {args : Args} (vs : List Value) (binds : Value → List (Str × Value))
    (hn : ∀ p ∈ news, s.heap.get? p.1 = some p.2) (X : K.In s.heap) (hlim : s.heap.NoLimit)
    (ho : K.lookup f = some ⟨oc, od, .func (fnOf name qual params body scope dV kV doc pm an cdv ct), osl⟩) (hcd : codeIn K cdv qual = true) (hroom : A.depth < recursionLimit) (hvs : vs.length ≤ 1000)
    (hbind : bindArgs (fnOf name qual params body scope dV kV doc pm an cdv ct) args = newTuple vs >>= fun v => pure (binds v)) (hloc : ∀ v, ∀ y ∈ binds v, scope.names.lookup y.1 = some .local)
    (h : ∀ h₁ L D, Fr (hid s.heap news) L h₁ (fun y => (binds (.ref D)).reverse.lookup y) → News (hid s.heap news) L h₁ ((D, tuObj vs) :: news) → (∀ p ∈ news, p.1 ≠ D) →
      wpAny (model prog w) (A.deeper (envOf qual scope L f cdv)) (execs body (envOf qual scope L f cdv))
        (fun fl s' => R (.ok (.ret (match fl with | .ret v => v | _ => .none))) s') (fun _ _ => False)
        { s with heap := h₁, toks := s.toks + (binds (.ref D)).length })
    (hco : scope.isCoroutine = false := by rfl) (hgen : scope.isGenerator = false := by rfl) (hk : scope.kind = .function := by rfl)
    (hcell : ∀ x ∈ scope.names, x.2 ≠ .cell := by decide) : codeAny (model prog w) A (.call (.ref f) args) R s := by
  refine codeAny_call_function (fd := fnOf name qual params body scope dV kV doc pm an cdv ct) (body := body) hroom (X _ _ ho) rfl hco hgen rfl (codeRec_of X hcd) ?_
  rw [hbind]
  refine wpAny_bind (wpAny_newObj_type (wpAny_pure ?_) (by show vs.toArray.size ≤ sizeLine; rw [List.size_toArray, sizeLine_eq]; omega))
  have k1 := Stays.push (h := s.heap) (tuObj vs)
  have hD := Heap.get?_push_size s.heap (o := tuObj vs) rfl
  refine wpAny_newFunctionEnv (s := { s with heap := s.heap.push (tuObj vs) }) hcell (hloc _) (fun h₁ hns hsb => ⟨(hlim.keeps k1).fresh _ hsb, codeAny_func ?_⟩) hk
  have hk₁ : ∀ b o, (s.heap.push (tuObj vs)).get? b = some o → h₁.get? b = some o := fun b o e => hsb.extBut b o (Nat.ne_of_lt (Heap.lt_size e)) (Heap.get?_push_of_some _ e)
  have hsz : (s.heap.push (tuObj vs)).objs.size = s.heap.objs.size + 1 := Heap.size_push _ _
  refine wpAny_mono (h h₁ (s.heap.push (tuObj vs)).objs.size s.heap.objs.size ⟨hns, fun b o e => hk₁ b o (k1 _ _ (of_hideAll _ e)), ?_⟩ (fun p hp => ?_) fun p hp => Nat.ne_of_lt (Heap.lt_size (hn p hp))) (fun _ _ z => z) fun _ _ z => z.elim
  · rw [hsz]; exact Nat.le_succ_of_le (Nat.le_of_eq (hideAll_size _ _))
  · rcases List.mem_cons.mp hp with rfl | hp
    · refine ⟨hk₁ _ _ hD, ?_, ?_⟩
      · rw [hsz]; exact Nat.ne_of_lt (Nat.lt_succ_self _)
      · show (hid s.heap news).get? s.heap.objs.size = none
        cases q : (hid s.heap news).get? s.heap.objs.size with
        | none => rfl
        | some o => have := of_hideAll _ q; rw [get_size] at this; cases this
    · exact ⟨hk₁ _ _ (k1 _ _ (hn p hp)), by rw [hsz]; exact Nat.ne_of_lt (Nat.lt_succ_of_lt (Heap.lt_size (hn p hp))), hideAll_none _ (List.mem_map_of_mem hp)⟩
end

end Mine

end

section
open PySem PySem.W PyProof.Rows PySem.Calls
namespace Mine

section
variable {prog : Program} {w : World} {A : Around} {s : Shared} {h₀ : Heap} {L : Addr} {m : Str → Option Value} {news : List (Addr × Obj)} {it B : Addr} {oi : Obj} {us : List Value}

theorem fn_ext {h h' : Heap} (F : Fr h₀ L h m) (N : News h₀ L h ((it, oi) :: news)) (hne : ∀ p ∈ news, p.1 ≠ it) (k : ∀ b x, b ≠ it → h.get? b = some x → h'.get? b = some x) : Fr h₀ L h' m ∧ News h₀ L h' news := by
  have D := N (it, oi) (.head _)
  obtain ⟨oL, es, ep, hL, r⟩ := F.ns
  refine ⟨⟨⟨oL, es, ep, k _ _ (Ne.symm D.2.1) hL, r⟩, fun b z q => k b z (fun e => ?_) (F.keep b z q), F.above⟩, fun p hp => ?_⟩
  · have := D.2.2; rw [← e, q] at this; cases this
  · have P := N p (.tail _ hp); exact ⟨k _ _ (hne p hp) P.1, P.2⟩

/-- a loop over a list that stands in the base, by an invariant over the frame's map and the ledger -/
theorem loopL {name : Str} {scope : Scope} {a : Addr} {cd : Value} {x : Str} {px : Pos} {body : List Stmt} {R : Result → Shared → Prop} (J : Nat → (Str → Option Value) → List (Addr × Obj) → Prop) (as : List Addr)
    (hh : A.handled = none) (hk : scope.kind = .function) (hx : (envOf name scope L a cd).kindOf x = some .local)
    (F : Fr h₀ L s.heap m) (N : News h₀ L s.heap ((it, oi) :: news)) (hit : s.heap.IsListIter it B 0) (hB : h₀.IsList B us.toArray) (has : it ∉ as) (hnews : ∀ p ∈ news, p.1 ∈ as) (j0 : J 0 m news)
    (turn : ∀ i m₁ news₁ h₁ tk₁ o₁ (hi : i < us.length), J i m₁ news₁ → (∀ p ∈ news₁, p.1 ∈ as) → Fr h₀ L h₁ (fun y => if y = x then some us[i] else m₁ y) → News h₀ L h₁ ((it, o₁) :: news₁) →
      wpAny (model prog w) A (execs body (envOf name scope L a cd)) (fun f s₂ => Halt (f = .next ∧ ∃ h tk m₂ news₂, s₂ = { s with heap := h, toks := tk } ∧ Fr h₀ L h m₂ ∧ News h₀ L h ((it, o₁) :: news₂) ∧ (∀ p ∈ news₂, p.1 ∈ as) ∧ J (i + 1) m₂ news₂)) (fun _ _ => False) { s with heap := h₁, toks := tk₁ })
    (fin : ∀ h tk m' news', Fr h₀ L h m' → News h₀ L h news' → J us.length m' news' → R (.ok .next) { s with heap := h, toks := tk }) :
    codeAny (model prog w) A (.forLoop (.Name x px) (.ref it) body [] (envOf name scope L a cd)) R s := by
  refine codeAny_forLoop (fun k s' => ∃ h tk m' news' o' i, s' = { s with heap := h, toks := tk } ∧ Fr h₀ L h m' ∧ News h₀ L h ((it, o') :: news') ∧ h.IsListIter it B i ∧ (∀ p ∈ news', p.1 ∈ as) ∧ J i m' news' ∧ i ≤ us.length ∧ k = us.length - i) ?_ (us.length - 0)
    ⟨s.heap, s.toks, m, news, oi, 0, rfl, F, N, hit, hnews, j0, Nat.zero_le _, rfl⟩
  rintro k s' ⟨h, tk, m', news', o', i, rfl, F', N', hit', hnews', hJ, hi, rfl⟩
  have hB' : h.IsList B us.toArray := by obtain ⟨ob, hob, r⟩ := hB; exact ⟨ob, F'.keep _ _ hob, r⟩
  have apart : ∀ p ∈ news', p.1 ≠ it := fun p hp e => has (e ▸ hnews' p hp)
  by_cases hlt : i < us.length
  · refine wpAny_pyNext_list_item (s := { s with heap := h, toks := tk }) hit' hB' (x := us[i]) (by rw [List.getElem?_toArray, List.getElem?_eq_getElem hlt]) fun h1 hit1 sb1 => ?_
    obtain ⟨o1, ho1, ho1r⟩ := hit1
    obtain ⟨F1, N1⟩ := fn_but F' N' apart (fun b z hb e => (sb1.2 b hb).trans e) ho1
    dsimp only
    refine wpAny_assign_Name (stN (s := { s with heap := h1, toks := tk }) F1 N1 (fun h2 F2 N2 => ?_) hk hx)
    refine wpAny_mono (turn i m' news' h2 (tk + 1) o1 hlt hJ hnews' F2 N2) (fun f s₃ h₃ => ?_) fun _ _ z => z.elim
    obtain ⟨rfl, h3, tk3, m3, news3, rfl, F3, N3, hn3, hJ3⟩ := h₃.out
    exact ⟨us.length - (i + 1), by omega, h3, tk3, m3, news3, o1, i + 1, rfl, F3, N3, ⟨o1, N3.get (.head _), ho1r⟩, hn3, hJ3, hlt, rfl⟩
  · have hin : i = us.length := by omega
    subst hin
    refine wpAny_pyNext_list_end (s := { s with heap := h, toks := tk }) hh hit' hB' (by simp) fun h1 eb => ?_
    obtain ⟨F1, N1⟩ := fn_ext F' N' apart fun b z hb e => eb b z hb e
    exact wpAny_execs_nil (fin h1 tk m' news' F1 N1 hJ)
end
end Mine

end

section
open PySem PySem.W PyProof.Rows PySem.Calls
namespace Mine

section
variable {prog : Program} {w : World} {A : Around} {s : Shared} {h₀ : Heap} {L : Addr} {m : Str → Option Value} {news : List (Addr × Obj)} {it D : Addr} {oi : Obj} {v : Value}

/-- a loop over a tuple of one item -/
theorem loop1 {name : Str} {scope : Scope} {a : Addr} {cd : Value} {x : Str} {px : Pos} {body : List Stmt} {R : Result → Shared → Prop} (J : (Str → Option Value) → List (Addr × Obj) → Prop) (as : List Addr)
    (hh : A.handled = none) (hk : scope.kind = .function) (hx : (envOf name scope L a cd).kindOf x = some .local)
    (F : Fr h₀ L s.heap m) (N : News h₀ L s.heap ((it, oi) :: (D, tuObj [v]) :: news)) (hit : s.heap.IsTupleIter it D 0) (hD : D ≠ it) (has : it ∉ as) (hnews : ∀ p ∈ news, p.1 ∈ as)
    (turn : ∀ h₁ tk₁ o₁, Fr h₀ L h₁ (fun y => if y = x then some v else m y) → News h₀ L h₁ ((it, o₁) :: (D, tuObj [v]) :: news) →
      wpAny (model prog w) A (execs body (envOf name scope L a cd)) (fun f s₂ => Halt (f = .next ∧ ∃ h tk m₂ news₂, s₂ = { s with heap := h, toks := tk } ∧ Fr h₀ L h m₂ ∧ News h₀ L h ((it, o₁) :: (D, tuObj [v]) :: news₂) ∧ (∀ p ∈ news₂, p.1 ∈ as) ∧ J m₂ news₂)) (fun _ _ => False) { s with heap := h₁, toks := tk₁ })
    (fin : ∀ h tk m' news', Fr h₀ L h m' → News h₀ L h news' → J m' news' → R (.ok .next) { s with heap := h, toks := tk }) :
    codeAny (model prog w) A (.forLoop (.Name x px) (.ref it) body [] (envOf name scope L a cd)) R s := by
  refine codeAny_forLoop (fun k s' => (k = 1 ∧ s' = s) ∨ (k = 0 ∧ ∃ h tk m' news' o', s' = { s with heap := h, toks := tk } ∧ Fr h₀ L h m' ∧ News h₀ L h ((it, o') :: (D, tuObj [v]) :: news') ∧ h.IsTupleIter it D 1 ∧ (∀ p ∈ news', p.1 ∈ as) ∧ J m' news')) ?_ 1 (.inl ⟨rfl, rfl⟩)
  rintro k s' (⟨rfl, rfl⟩ | ⟨rfl, h, tk, m', news', o', rfl, F', N', hit', hnews', hJ⟩)
  · have hDt : s'.heap.IsTuple D #[v] := ⟨_, N.get (.tail _ (.head _)), rfl, 0, rfl⟩
    refine wpAny_pyNext_tuple_item hit hDt (x := v) rfl fun h1 hit1 sb1 => ?_
    obtain ⟨o1, ho1, ho1r⟩ := hit1
    have apart : ∀ p ∈ ((D, tuObj [v]) :: news), p.1 ≠ it := fun p hp e => by
      rcases List.mem_cons.mp hp with rfl | hp
      · exact hD e
      · exact has (e ▸ hnews p hp)
    obtain ⟨F1, N1⟩ := fn_but F N apart (fun b z hb e => (sb1.2 b hb).trans e) ho1
    dsimp only
    refine wpAny_assign_Name (stN (s := { s' with heap := h1 }) F1 N1 (fun h2 F2 N2 => ?_) hk hx)
    refine wpAny_mono (turn h2 _ o1 F2 N2) (fun f s₃ h₃ => ?_) fun _ _ z => z.elim
    obtain ⟨rfl, h3, tk3, m3, news3, rfl, F3, N3, hn3, hJ3⟩ := h₃.out
    exact ⟨0, Nat.zero_lt_one, .inr ⟨rfl, h3, tk3, m3, news3, o1, rfl, F3, N3, ⟨o1, N3.get (.head _), ho1r⟩, hn3, hJ3⟩⟩
  · have hDt : h.IsTuple D #[v] := ⟨_, N'.get (.tail _ (.head _)), rfl, 0, rfl⟩
    have apart : ∀ p ∈ ((D, tuObj [v]) :: news'), p.1 ≠ it := fun p hp e => by
      rcases List.mem_cons.mp hp with rfl | hp
      · exact hD e
      · exact has (e ▸ hnews' p hp)
    refine wpAny_pyNext_tuple_end (s := { s with heap := h, toks := tk }) hh hit' hDt rfl fun h1 eb => ?_
    obtain ⟨F1, N1⟩ := fn_ext F' N' apart fun b z hb e => eb b z hb e
    exact wpAny_execs_nil (fin h1 tk m' news' F1 (fun p hp => N1 p (.tail _ hp)) hJ)
end
end Mine

end

section
open PySem PySem.W PyProof.Rows PySem.Calls
namespace Mine
local macro_rules | `(tactic| walk_at "getAttr ref") => `(tactic| refine Mine.halt_at ?_)

theorem news_new {h₀ : Heap} {L I : Addr} {m : Str → Option Value} {news : List (Addr × Obj)} {oi : Obj} {h h' : Heap} (F : Fr h₀ L h m) (N : News h₀ L h news) (k : Stays h h') (hn : h.get? I = none) (hg : h'.get? I = some oi) :
    Fr h₀ L h' m ∧ News h₀ L h' ((I, oi) :: news) ∧ ∀ p ∈ news, p.1 ≠ I := by
  refine ⟨F.keeps k, fun p hp => ?_, fun p hp e => ?_⟩
  · rcases List.mem_cons.mp hp with rfl | hp
    · refine ⟨hg, fun e => ?_, ?_⟩
      · obtain ⟨oL, _, _, hL, _⟩ := F.ns; dsimp only at e; rw [e, hL] at hn; cases hn
      · show h₀.get? I = none
        cases q : h₀.get? I with
        | none => rfl
        | some o => rw [F.keep _ _ q] at hn; cases hn
    · exact ⟨k _ _ (N p hp).1, (N p hp).2⟩
  · have := (N p hp).1; rw [e, hn] at this; cases this

theorem kind_it : builtinKind "iter" = none := by kernel_rfl
theorem plain_it : plainId "iter" = true := by decide +kernel
theorem entry_it : entryFor table "iter" = some Builtin.«iter» := entryFor_of_tree (by kernel_rfl)
theorem args_it (a : Value) : argsOk "iter" ⟨[a], []⟩ := by unfold argsOk; kernel_rfl

theorem iterOS {w : World} {A : Around} {s : Shared} {p : Program} {loose : List Str} {mean : ExcName → Option Value} {mg mb : Str → Option Value} {y d l : Addr} {R : Result → Shared → Prop} {o : Obj} {S : List Int} {items : Array Value}
   (X : (hd.heap_39 w.params).In s.heap) (T : Top p loose mean mg mb s.heap) (hroom : A.depth < recursionLimit) (hh : A.handled = none) (O : OSat s.heap y d o S) (hsl : o.slots = #[some (.ref l)]) (hl : s.heap.IsList l items)
   (hR : ∀ h' tk I, Stays s.heap h' → s.heap.get? I = none → h'.IsListIter I l 0 → R (.ok (.ret (.ref I))) { s with heap := h', toks := tk }) :
   codeAny (model PySem.Challenge.rw_ae5044_01.row.prog w) A (.call (.ref 114) ⟨[.ref y], []⟩) R s := by
  revert X; k_fill; intro X
  refine enterN (news := []) [("self", .ref y)] (by simp) X T.nolimit (by k_is) (by k_is) hroom (BindsTo.of_eq rfl) (locs rfl) ?_
  intro h₁ L F N
  k_steps
  refine name_B (s := ⟨h₁, _, _, _, _⟩) (K := hd.heap_39 w.params) (v := .builtin "iter") F X (topRead_of T) (by kernel_rfl) (by kernel_rfl) (by decide) ?_
  k_steps
  have O1 : OSat h₁ y d o S := ⟨O.set.stays F.keep, O.cls, O.dict, F.keep _ _ O.dat⟩
  refine ⟨os_list (s := ⟨h₁, _, _, _, _⟩) (X.keeps F.keep) O1 hsl ?_⟩
  have hl1 : h₁.IsList l items := by obtain ⟨ol, hol, r⟩ := hl; exact ⟨ol, F.keep _ _ hol, r⟩
  k_steps
  refine Calls.call_function_entry kind_it plain_it entry_it (args_it _) ?_
  unfold Builtin.«iter»
  refine wpAny_bind (m := PySem.someArgs "iter" 1 2 _) (wpAny_of_eq (a := [Value.ref l]) (by kernel_rfl) ?_)
  refine wpAny_bind (wpAny_pyIter_list (s := ⟨h₁, _, _, _, _⟩) hl1 (wpAny_pure ⟨_, rfl, ?_⟩))
  have k1 := Stays.push (h := h₁) { cls := .type "list_iterator", data := .fields #[.ref l, .int 0 0] }
  refine hR _ _ _ (Stays.trans F.keep k1) ?_ ⟨_, Heap.get?_push_size h₁ rfl, rfl, rfl⟩
  cases q : s.heap.get? h₁.objs.size with
  | none => rfl
  | some o => have := F.keep _ _ q; rw [get_size] at this; cases this

/-- what a for loop may run over: its iterator is one over the list l -/
def Src (prog : Program) (w : World) (g : Heap) (v : Value) (l : Addr) : Prop :=
  ∀ (A : Around) (E : Value → Shared → Prop) (s : Shared) (Q : Value → Shared → Prop) (L : Addr) (m : Str → Option Value), A.handled = none → A.depth < recursionLimit → Fr g L s.heap m →
    (∀ h' tk I, Stays s.heap h' → s.heap.get? I = none → h'.IsListIter I l 0 → Q (.ref I) { s with heap := h', toks := tk }) → wpAny (model prog w) A (pyIter v) Q E s

theorem Src.list {prog : Program} {w : World} {g : Heap} {l : Addr} {items : Array Value} (hl : g.IsList l items) : Src prog w g (.ref l) l := by
  intro A E s Q L m hh hd F hQ
  have hl1 : s.heap.IsList l items := by obtain ⟨ol, hol, r⟩ := hl; exact ⟨ol, F.keep _ _ hol, r⟩
  refine wpAny_pyIter_list hl1 (hQ _ _ _ (Stays.push _) (get_size _) ⟨_, Heap.get?_push_size _ rfl, rfl, rfl⟩)

theorem Src.os {w : World} {g : Heap} {y d l : Addr} {o : Obj} {S : List Int} {items : Array Value} {p : Program} {loose : List Str} {mean : ExcName → Option Value} {mg mb : Str → Option Value}
    (X : (hd.heap_39 w.params).In g) (T : Top p loose mean mg mb g) (O : OSat g y d o S) (hsl : o.slots = #[some (.ref l)]) (hl : g.IsList l items) : Src PySem.Challenge.rw_ae5044_01.row.prog w g (.ref y) l := by
  intro A E s Q L m hh hd F hQ
  have hl1 : s.heap.IsList l items := by obtain ⟨ol, hol, r⟩ := hl; exact ⟨ol, F.keep _ _ hol, r⟩
  have O1 : OSat s.heap y d o S := ⟨O.set.stays F.keep, O.cls, O.dict, F.keep _ _ O.dat⟩
  obtain ⟨ox, I, _⟩ := O1.inst
  refine owit_iter F X I (by kernel_rfl) (by kernel_rfl) (f := 114) ?_
  refine wpAny_call (iterOS (X.keeps F.keep) (T.keeps F.keep) hd hh O1 hsl hl1 fun h' tk J k hn hit => ?_)
  unfold OwitIt
  exact wpAny_specialOf (s := { s with heap := h', toks := tk }) hit.typeIs slot_listiter_next.lookup (hQ h' tk J k hn hit)
end Mine

end

section
open PySem PySem.W PyProof.Rows PySem.Calls
namespace Mine
local macro_rules | `(tactic| walk_at "call builtin:set.add") => `(tactic| refine Mine.halt_at ?_)
local macro_rules | `(tactic| walk_at "call builtin:list.append") => `(tactic| refine Mine.halt_at ?_)
local macro_rules | `(tactic| walk_at "getMethod type:set") => `(tactic| refine Mine.halt_at ?_)
local macro_rules | `(tactic| walk_at "getAttr ref") => `(tactic| refine Mine.halt_at ?_)
local macro_rules | `(tactic| walk_at "pyIter ref") => `(tactic| refine Mine.halt_at ?_)
local macro_rules | `(tactic| walk_at "exec For Name Name cons nil") => `(tactic| refine Mine.halt_at ?_)
local macro_rules | `(tactic| walk_at "compareOp NotIn int ref") => `(tactic| refine Mine.halt_at ?_)

theorem IntsAre.snoc {vs : List Value} {V : List Int} {i : Int} {tk : Tok} (h : IntsAre vs V) : IntsAre (vs ++ [.int i tk]) (V ++ [i]) := by
  induction h with
  | nil => exact .cons _ _ .nil
  | cons n t _ ih => exact .cons n t ih

theorem fn_put {h₀ : Heap} {L x : Addr} {m : Str → Option Value} {pre post : List (Addr × Obj)} {o o' : Obj} {h h' : Heap} (F : Fr h₀ L h m) (N : News h₀ L h (pre ++ (x, o) :: post)) (h1 : ∀ p ∈ pre, p.1 ≠ x) (h2 : ∀ p ∈ post, p.1 ≠ x) (k : KeepBut x h h') (hg : h'.get? x = some o') :
    Fr h₀ L h' m ∧ News h₀ L h' (pre ++ (x, o') :: post) := by
  have N1 : News h₀ L h ((x, o) :: (pre ++ post)) := fun p hp => N p (by
    rcases List.mem_cons.mp hp with rfl | hp
    · exact List.mem_append_right _ (.head _)
    · rcases List.mem_append.mp hp with hp | hp
      · exact List.mem_append_left _ hp
      · exact List.mem_append_right _ (.tail _ hp))
  obtain ⟨F', N'⟩ := fn_but F N1 (fun p hp => (List.mem_append.mp hp).elim (h1 p) (h2 p)) k hg
  refine ⟨F', fun p hp => N' p ?_⟩
  rcases List.mem_append.mp hp with hp | hp
  · exact .tail _ (List.mem_append_left _ hp)
  · rcases List.mem_cons.mp hp with rfl | hp
    · exact .head _
    · exact .tail _ (List.mem_append_right _ hp)

theorem frame2 {k : Str} {a b : Option Value} {f : Str → Option Value} : (fun y => if y = k then a else (if y = k then b else f y)) = fun y => if y = k then a else f y := by
  funext y; by_cases e : y = k
  · rw [if_pos e, if_pos e]
  · rw [if_neg e, if_neg e, if_neg e]

theorem upd {w : World} {A : Around} {s : Shared} {p : Program} {loose : List Str} {mean : ExcName → Option Value} {mg mb : Str → Option Value} {x d lx l : Addr} {it : Value} {R : Result → Shared → Prop} {vs us : List Value} {V U : List Int} {n c : Nat} {g : Heap} {es : Array (Int × Value)} {ep : Nat} {t : SetTable}
   (X : (hd.heap_39 w.params).In g) (T : Top p loose mean mg mb g) (kg : Stays g s.heap) (hroom : A.depth + 1 < recursionLimit) (hh : A.handled = none)
   (gx : g.get? x = none) (gl : g.get? lx = none)
   (hx : s.heap.get? x = some (osD (osO d lx) es ep t)) (H : SetIs es t V) (hdx : s.heap.get? d = some (dictOf [] 0)) (hlx : s.heap.get? lx = some (liObj vs n)) (hi : IntsAre vs V)
   (hl : s.heap.get? l = some (liObj us c)) (hu : IntsAre us U) (hU : ∀ i ∈ U, Sm i) (nl : l ≠ lx) (src : Src PySem.Challenge.rw_ae5044_01.row.prog w (hid s.heap [(x, osD (osO d lx) es ep t), (lx, liObj vs n)]) it l)
   (hR : ∀ h' tk es' ep' t' vs' n', h'.get? x = some (osD (osO d lx) es' ep' t') → SetIs es' t' (U.foldl addU V) → h'.get? lx = some (liObj vs' n') → IntsAre vs' (U.foldl addU V) → (∀ b z, b ≠ x → b ≠ lx → s.heap.get? b = some z → h'.get? b = some z) → R (.ok (.ret .none)) { s with heap := h', toks := tk }) :
   codeAny (model PySem.Challenge.rw_ae5044_01.row.prog w) A (.call (.ref 135) ⟨[.ref x, it], []⟩) R s := by
  have hn : ∀ p ∈ [(x, osD (osO d lx) es ep t), (lx, liObj vs n)], s.heap.get? p.1 = some p.2 := by
    intro p hp
    simp only [List.mem_cons, List.not_mem_nil, or_false] at hp
    rcases hp with rfl | rfl
    · exact hx
    · exact hlx
  have X0 := X.keeps (hid_stays kg (news := [(x, osD (osO d lx) es ep t), (lx, liObj vs n)]) (by simp [gx, gl]))
  have T0 := T.keeps (hid_stays kg (news := [(x, osD (osO d lx) es ep t), (lx, liObj vs n)]) (by simp [gx, gl]))
  have Xs := X.keeps kg
  have Ts := T.keeps kg
  have nxl : x ≠ lx := fun e => by subst e; rw [hx] at hlx; cases hlx
  have ndx : d ≠ x := fun e => by subst e; rw [hx] at hdx; cases hdx
  have ndl : d ≠ lx := fun e => by subst e; rw [hlx] at hdx; simp at hdx
  have nlx : l ≠ x := fun e => by subst e; rw [hx] at hl; cases hl
  have hl0 : (hid s.heap [(x, osD (osO d lx) es ep t), (lx, liObj vs n)]).IsList l us.toArray := ⟨_, hideAll_get _ hl (by simp [nl, nlx]), rfl, c, rfl⟩
  have hd0 : (hid s.heap [(x, osD (osO d lx) es ep t), (lx, liObj vs n)]).get? d = some (dictOf [] 0) := hideAll_get _ hdx (by simp [ndx, ndl])
  revert X; k_fill; intro X
  refine enterS [it] (fun v => [("self", .ref x), ("iterables", v)]) hn Xs Ts.nolimit (by k_is) (by k_is) (Nat.lt_of_succ_lt hroom) (by simp) (by rfl) (fun v => locs rfl) ?_
  clear X Xs Ts
  intro h₁ L D F N hD
  k_steps
  refine ⟨wpAny_For ?_⟩
  k_steps
  refine ⟨wpAny_pyIter_tuple (s := ⟨h₁, _, _, _, _⟩) ⟨_, N.get (.head _), rfl, 0, rfl⟩ ?_⟩
  have F1 := F.push { cls := .type "tuple_iterator", data := .fields #[.ref D, .int 0 0] }
  have N1 := N.push F { cls := .type "tuple_iterator", data := .fields #[.ref D, .int 0 0] }
  have hI := Heap.get?_push_size h₁ (o := { cls := .type "tuple_iterator", data := .fields #[.ref D, .int 0 0] }) rfl
  have lt1 : ∀ q ∈ (D, tuObj [it]) :: [(x, osD (osO d lx) es ep t), (lx, liObj vs n)], q.1 ≠ h₁.objs.size := fun q hq => Nat.ne_of_lt (Heap.lt_size (N q hq).1)
  dsimp only
  generalize h₁.objs.size = I at N1 hI lt1 ⊢
  generalize h₁.push { cls := .type "tuple_iterator", data := .fields #[.ref D, .int 0 0] } = h2 at F1 N1 hI ⊢
  have hxI : x ≠ I := lt1 _ (.tail _ (.head _))
  have hlI : lx ≠ I := lt1 _ (.tail _ (.tail _ (.head _)))
  have hDI : D ≠ I := lt1 _ (.head _)
  refine loop1 (s := { s with heap := h2, toks := _ }) (fun m' news' => ∃ es' ep' t' vs' n', news' = [(x, osD (osO d lx) es' ep' t'), (lx, liObj vs' n')] ∧ SetIs es' t' (U.foldl addU V) ∧ IntsAre vs' (U.foldl addU V)) [x, lx] hh rfl rfl F1 N1 ⟨_, hI, rfl, rfl⟩ hDI (by simp [hxI.symm, hlI.symm]) (by simp) ?_ ?_
  · intro h3 tk3 o1 F3 N3
    k_steps
    refine ⟨wpAny_For ?_⟩
    k_steps
    refine src _ _ ⟨h3, _, _, _, _⟩ _ L _ hh hroom F3 fun h4 tk4 I2 k4 hn4 hit4 => ?_
    obtain ⟨oi4, hI2, hI2r⟩ := hit4
    obtain ⟨F4, N4, lt2⟩ := news_new F3 N3 k4 hn4 hI2
    have as2 : I2 ∉ [I, D, x, lx] := by
      simp only [List.mem_cons, List.not_mem_nil, or_false, not_or]
      exact ⟨(lt2 _ (.head _)).symm, (lt2 _ (.tail _ (.head _))).symm, (lt2 _ (.tail _ (.tail _ (.head _)))).symm, (lt2 _ (.tail _ (.tail _ (.tail _ (.head _))))).symm⟩
    have hDx : D ≠ x := (hD _ (.head _)).symm
    have hDl : D ≠ lx := (hD _ (.tail _ (.head _))).symm
    refine loopL (s := { s with heap := h4, toks := _ }) (B := l) (us := us) (fun i m' news' => ∃ ev es' ep' t' vs' n', m' = (fun y => if y = Str.ofString "element" then ev else (if y = Str.ofString "iterable" then some it else [(Str.ofString "self", Value.ref x), (Str.ofString "iterables", .ref D)].reverse.lookup y)) ∧ news' = [(I, o1), (D, tuObj [it]), (x, osD (osO d lx) es' ep' t'), (lx, liObj vs' n')] ∧
      SetIs es' t' ((U.take i).foldl addU V) ∧ IntsAre vs' ((U.take i).foldl addU V)) [I, D, x, lx] hh rfl rfl F4 N4 ⟨_, hI2, hI2r⟩ hl0 as2 (by simp) ?_ ?_ ?_
    · refine ⟨none, es, ep, t, vs, n, ?_, rfl, by simpa using H, by simpa using hi⟩
      funext y
      by_cases e : y = Str.ofString "element"
      · subst e; rw [if_pos rfl, if_neg (by decide)]; rfl
      · rw [if_neg e]
    · rintro i m₁ news₁ h5 tk5 o5 hi5 ⟨ev, es5, ep5, t5, vs5, n5, rfl, rfl, H5, hv5⟩ - F5 N5
      have hlt : i < U.length := by rw [← hu.length]; exact hi5
      obtain ⟨tu, huv⟩ := PyProof.Rows.IntsAre.int_at hu i _ (List.getElem?_eq_getElem hi5)
      have hvk : U.getD i 0 = U[i] := by rw [List.getD_eq_getElem?_getD, List.getElem?_eq_getElem hlt]; rfl
      rw [hvk] at huv
      rw [huv] at F5
      have hsu := hU _ (List.getElem_mem hlt)
      have hnext : (U.take (i + 1)).foldl addU V = addU ((U.take i).foldl addU V) U[i] := by
        rw [List.take_succ_eq_append_getElem hlt, List.foldl_append]; rfl
      rw [hnext]
      generalize (U.take i).foldl addU V = W at H5 hv5
      generalize U[i] = u at F5 hsu
      k_steps
      have HS5 : SetAt h5 x (osO d lx) W := ⟨es5, ep5, t5, N5.get (.tail _ (.tail _ (.tail _ (.head _)))), H5⟩
      refine ⟨notIn_set (s := ⟨h5, _, _, _, _⟩) (S := W) HS5 (os_cls (X0.keeps F5.keep) rfl) (os_contains (X0.keeps F5.keep) rfl) hsu ?_⟩
      by_cases hin : u ∈ W
      · rw [decide_eq_false (fun h => h hin)]
        k_steps
        have ea : addU W u = W := if_pos hin
        rw [ea]
        exact ⟨rfl, h5, _, _, _, rfl, F5, N5, by simp, some (.int u tu), es5, ep5, t5, vs5, n5, frame2, rfl, H5, hv5⟩
      · rw [decide_eq_true hin]
        k_steps
        refine ⟨os_list (s := ⟨h5, _, _, _, _⟩) (X0.keeps F5.keep) ⟨HS5, rfl, rfl, F5.keep _ _ hd0⟩ rfl ?_⟩
        k_steps
        have w5 : vs5.length ≤ 1000 := by rw [hv5.length]; have := len_small H5.nodup H5.small; omega
        refine ⟨wpAny_list_append_plain (s := ⟨h5, _, _, _, _⟩) (items := vs5.toArray) ⟨n5, N5.get (.tail _ (.tail _ (.tail _ (.tail _ (.head _)))))⟩ (fun h6 hp6 sb6 => ?_) (by rw [List.size_toArray, sizeLine_eq]; omega)⟩
        obtain ⟨n6, hp6⟩ := hp6
        have lt5 : I2 ≠ lx ∧ I ≠ lx ∧ D ≠ lx ∧ x ≠ lx ∧ I2 ≠ x ∧ I ≠ x ∧ D ≠ x := by
          refine ⟨(lt2 _ (.tail _ (.tail _ (.tail _ (.head _))))).symm, hlI.symm, hDl, nxl, (lt2 _ (.tail _ (.tail _ (.head _)))).symm, hxI.symm, hDx⟩
        obtain ⟨F6, N6⟩ := fn_put (pre := [(I2, o5), (I, o1), (D, tuObj [it]), (x, osD (osO d lx) es5 ep5 t5)]) (post := []) F5 N5 (by simp [lt5]) (by simp) (fun b z hb e => (sb6.2 b hb).trans e) hp6
        k_steps
        refine ⟨get_setm F6 X0 (id := "set.add") (by kernel_rfl) (by kernel_rfl) ?_⟩
        k_steps
        have HS6 : SetAt h6 x (osO d lx) W := ⟨es5, ep5, t5, N6.get (.tail _ (.tail _ (.tail _ (.head _)))), H5⟩
        refine ⟨set_add (s := ⟨h6, _, _, _, _⟩) HS6 (os_cls (X0.keeps F6.keep) rfl) hsu fun h7 sb7 HS7 => ?_⟩
        rw [if_neg hin] at HS7
        obtain ⟨es7, ep7, t7, hg7, H7⟩ := HS7
        obtain ⟨F7, N7⟩ := fn_put (pre := [(I2, o5), (I, o1), (D, tuObj [it])]) (post := [(lx, liObj (vs5 ++ [.int u tu]) n6)]) F6 (by simpa using N6) (by simp [lt5]) (by simp [lt5.2.2.2.1.symm]) (fun b z hb e => (sb7.2 b hb).trans e) hg7
        k_steps
        have ea : addU W u = W ++ [u] := if_neg hin
        rw [ea]
        exact ⟨rfl, h7, _, _, _, rfl, F7, N7, by simp, some (.int u tu), es7, ep7, t7, vs5 ++ [.int u tu], n6, frame2, rfl, H7, IntsAre.snoc hv5⟩
    · rintro h5 tk5 m5 news5 F5 N5 ⟨ev, es5, ep5, t5, vs5, n5, rfl, rfl, H5, hv5⟩
      dsimp only
      refine wpAny_execs_nil ⟨rfl, h5, tk5, _, [(x, osD (osO d lx) es5 ep5 t5), (lx, liObj vs5 n5)], rfl, F5, N5, by simp, es5, ep5, t5, vs5, n5, rfl, ?_, ?_⟩
      · rw [hu.length, List.take_length] at H5; exact H5
      · rw [hu.length, List.take_length] at hv5; exact hv5
  · rintro h5 tk5 m5 news5 F5 N5 ⟨es5, ep5, t5, vs5, n5, rfl, H5, hv5⟩
    dsimp only
    refine wpAny_execs_nil (hR h5 tk5 es5 ep5 t5 vs5 n5 (N5.get (.head _)) H5 (N5.get (.tail _ (.head _))) hv5 fun b z hb hb' e => F5.keep b z (hideAll_get _ e (by simp [hb, hb'])))
end Mine

end

section
open PySem PySem.W PyProof.Rows PySem.Calls
namespace Mine
local macro_rules | `(tactic| walk_at "getAttr ref") => `(tactic| refine Mine.halt_at ?_)
local macro_rules | `(tactic| walk_at "getMethod ref") => `(tactic| refine Mine.halt_at ?_)
local macro_rules | `(tactic| walk_at "call ref") => `(tactic| refine Mine.halt_at ?_)

structure OSx (h : Heap) (x d l : Addr) (V : List Int) : Prop where
  obj : ∃ es ep t, h.get? x = some (osD (osO d l) es ep t) ∧ SetIs es t V
  dat : h.get? d = some (dictOf [] 0)
  lst : ∃ vs n, h.get? l = some (liObj vs n) ∧ IntsAre vs V

namespace OSx
variable {h h' : Heap} {x d l : Addr} {V : List Int}
theorem stays (O : OSx h x d l V) (k : Stays h h') : OSx h' x d l V :=
  ⟨let ⟨es, ep, t, a, b⟩ := O.obj; ⟨es, ep, t, k _ _ a, b⟩, k _ _ O.dat, let ⟨vs, n, a, b⟩ := O.lst; ⟨vs, n, k _ _ a, b⟩⟩
theorem osat (O : OSx h x d l V) : OSat h x d (osO d l) V := ⟨let ⟨es, ep, t, a, b⟩ := O.obj; ⟨es, ep, t, a, b⟩, rfl, rfl, O.dat⟩
theorem nodup (O : OSx h x d l V) : V.Nodup := let ⟨_, _, _, _, b⟩ := O.obj; b.nodup
theorem small (O : OSx h x d l V) : ∀ i ∈ V, Sm i := let ⟨_, _, _, _, b⟩ := O.obj; b.small
theorem len (O : OSx h x d l V) : V.length ≤ 9 := len_small O.nodup O.small
theorem hid {news : List (Addr × Obj)} (O : OSx h x d l V) (h1 : ∀ p ∈ news, p.1 ≠ x ∧ p.1 ≠ d ∧ p.1 ≠ l) : OSx (Mine.hid h news) x d l V := by
  have k : ∀ b z, (b = x ∨ b = d ∨ b = l) → h.get? b = some z → (Mine.hid h news).get? b = some z := fun b z hb e => hideAll_get _ e fun hm => by
    obtain ⟨p, hp, rfl⟩ := List.mem_map.mp hm
    obtain ⟨a1, a2, a3⟩ := h1 p hp
    rcases hb with e | e | e
    · exact a1 e
    · exact a2 e
    · exact a3 e
  exact ⟨let ⟨es, ep, t, a, b⟩ := O.obj; ⟨es, ep, t, k _ _ (.inl rfl) a, b⟩, k _ _ (.inr (.inl rfl)) O.dat, let ⟨vs, n, a, b⟩ := O.lst; ⟨vs, n, k _ _ (.inr (.inr rfl)) a, b⟩⟩
theorem ne {r : Addr} (O : OSx h x d l V) (hr : h.get? r = none) : x ≠ r ∧ d ≠ r ∧ l ≠ r := by
  obtain ⟨⟨es, ep, t, a, _⟩, b, vs, n, c, _⟩ := O
  refine ⟨fun e => ?_, fun e => ?_, fun e => ?_⟩ <;> subst e <;> simp_all
theorem src {w : World} {p : Program} {loose : List Str} {mean : ExcName → Option Value} {mg mb : Str → Option Value} (O : OSx h x d l V) (X : (hd.heap_39 w.params).In h) (T : Top p loose mean mg mb h) : Src PySem.Challenge.rw_ae5044_01.row.prog w h (.ref x) l := by
  obtain ⟨vs, n, a, b⟩ := O.lst
  exact Src.os X T O.osat rfl (items := vs.toArray) ⟨_, a, rfl, n, rfl⟩
end OSx

theorem news_two {h₀ : Heap} {L I d : Addr} {m : Str → Option Value} {news : List (Addr × Obj)} {oi od : Obj} {h h' : Heap} (F : Fr h₀ L h' m) (N : News h₀ L h' ((d, od) :: news)) (F0 : Fr h₀ L h m) (k : Stays h h') (N0 : News h₀ L h news) (hn : h.get? I = none) (hg : h'.get? I = some oi) (hd : d ≠ I) :
    News h₀ L h' ((I, oi) :: (d, od) :: news) ∧ ∀ p ∈ (d, od) :: news, p.1 ≠ I := by
  obtain ⟨_, N1, l1⟩ := news_new F0 N0 k hn hg
  refine ⟨fun p hp => ?_, fun p hp => ?_⟩
  · rcases List.mem_cons.mp hp with rfl | hp
    · exact N1 _ (.head _)
    · exact N p hp
  · rcases List.mem_cons.mp hp with rfl | hp
    · exact hd
    · exact l1 p hp

theorem fn_two {h₀ : Heap} {L x l : Addr} {m : Str → Option Value} {news : List (Addr × Obj)} {ox ox' ol ol' : Obj} {h h' : Heap} (F : Fr h₀ L h m) (N : News h₀ L h news) (hx : (x, ox) ∈ news) (hl : (l, ol) ∈ news)
    (k : ∀ b z, b ≠ x → b ≠ l → h.get? b = some z → h'.get? b = some z) (gx : h'.get? x = some ox') (gl : h'.get? l = some ol') : Fr h₀ L h' m ∧ News h₀ L h' ((x, ox') :: (l, ol') :: news.filter fun p => p.1 != x && p.1 != l) := by
  have Dx := N _ hx
  have Dl := N _ hl
  obtain ⟨oL, es, ep, hL, r⟩ := F.ns
  refine ⟨⟨⟨oL, es, ep, k _ _ (Ne.symm Dx.2.1) (Ne.symm Dl.2.1) hL, r⟩, fun b z q => k b z (fun e => ?_) (fun e => ?_) (F.keep b z q), F.above⟩, fun p hp => ?_⟩
  · have := Dx.2.2; rw [← e, q] at this; cases this
  · have := Dl.2.2; rw [← e, q] at this; cases this
  · rcases List.mem_cons.mp hp with rfl | hp
    · exact ⟨gx, Dx.2⟩
    · rcases List.mem_cons.mp hp with rfl | hp
      · exact ⟨gl, Dl.2⟩
      · obtain ⟨hp, hq⟩ := List.mem_filter.mp hp
        simp only [Bool.and_eq_true, bne_iff_ne] at hq
        exact ⟨k _ _ hq.1 hq.2 (N p hp).1, (N p hp).2⟩

theorem findObj_fnN {K : Frag} {C f : Addr} {name : Str} {od : Obj} {g : Value} (hh : (clsIn K C).any (fun c => !c.hasDict) = true) (ha : findIn K (.ref C) name = some (some (.ref f))) (hg : specialIn K (.ref f) "__get__" = some (some g)) (ht : takesIn K (.ref f) = some false) (hc : copiedNames.contains name = false) :
    findObj K C (some od) name = some (.bind g (.ref f)) := by
  obtain ⟨cd, hc', hd⟩ := any_some hh
  unfold findObj
  have ho : PySem.W.ownOf cd (some od) name = some none := by
    unfold PySem.W.ownOf
    rw [if_neg]
    simpa using hd
  rw [hc', Option.bind_some, ha, Option.bind_some]
  simp only [hg, ht, Option.bind_some, ho, hc, Bool.false_and, Bool.false_eq_true, if_false]

theorem star_meth {w : World} {A : Around} {s : Shared} {E : Value → Shared → Prop} {Q : Value → Shared → Prop} {name : Str} {f a : Addr} {env : Env} {o e : Expr} {apos p pos : Pos}
    (h : wpAny (model PySem.Challenge.rw_ae5044_01.row.prog w) A (eval o env) (fun ov s₁ => Halt (ov = .ref a ∧ (hd.heap_39 w.params).In s₁.heap ∧ (∃ d ob S, OSat s₁.heap a d ob S) ∧
      wpAny (model PySem.Challenge.rw_ae5044_01.row.prog w) A (eval e env) (fun v s₂ => StarOf (model PySem.Challenge.rw_ae5044_01.row.prog w) A E v (fun vs s₃ => Halt (MethP (hd.heap_39 w.params) s₁.heap.objs.size f (.ref a) s₃.heap ∧
        codeAny (model PySem.Challenge.rw_ae5044_01.row.prog w) A (.call (.ref f) ⟨.ref a :: vs, []⟩) (fun r s' => match r with | .ok (.ret v) => Q v s' | .ok _ => False | .error e => E e s') s₃)) s₂) E { s₁ with heap := s₁.heap.push (methodObj (.ref f) (.ref a)), toks := s₁.toks + 1 })) E s)
    (hf : findObj (hd.heap_39 w.params) 232 (some (dictOf [] 0)) name = some (.bind (.builtin "function.__get__") (.ref f))) (ht : typeIn (hd.heap_39 w.params) (.ref f) = some (.type "function")) (hfn : fnIn (hd.heap_39 w.params) f = true)
    (hb : attributeBase o name env (eval o env) = eval o env := by rfl) (he : starEach [.Starred e p] env = [(true, eval e env)] := by rfl)
    (heq : eval (.Call (.Attribute o name apos) [.Starred e p] [] pos) env = (do
      let ov ← attributeBase o name env (eval o env)
      standAt apos.atName
      methodCall o name apos pos env ov 1 (backTo pos (starEach [.Starred e p] env)) []) := by rfl) :
    wpAny (model PySem.Challenge.rw_ae5044_01.row.prog w) A (eval (.Call (.Attribute o name apos) [.Starred e p] [] pos) env) Q E s := by
  rw [heq, hb]
  refine wpAny_bind (wpAny_mono h (fun ov s₁ h₁ => wpAny_bind (wpAny_standAt ?_)) fun _ _ x => x)
  obtain ⟨rfl, X1, ⟨d, ob, S, O1⟩, h1⟩ := h₁.out
  unfold methodCall
  have hform : methodCallForm 1 (backTo pos (starEach [.Starred e p] env)) ([] : List (Option Str × Sem Value)) = false := by rw [he]; rfl
  rw [hform]
  refine wpAny_bind (wpAny_holding ?_)
  unfold calleeOf
  simp only [Bool.false_eq_true, if_false]
  refine wpAny_bind (os_bound X1 O1 hf ht (wpAny_pure ?_))
  unfold methodCallPos
  simp only [Bool.not_false, Bool.true_or, if_true]
  refine wpAny_bind (wpAny_pure ?_)
  rw [he]
  refine ks_call (f := .ref s₁.heap.objs.size) rfl (keeps_M (self := .ref a) hfn) (ks_lone ?_)
  refine wpAny_mono h1 (fun v s₂ h2 => ?_) fun _ _ x => x
  unfold StarOf at h2 ⊢
  refine wpAny_mono h2 (fun b s₃ h3 => ⟨h3.1, wpAny_mono h3.2 (fun vs s₄ h4 => ?_) fun _ _ x => x⟩) fun _ _ x => x
  obtain ⟨hm, h5⟩ := h4.out
  refine ⟨hm, wpAny_call (method_call hm.1 h5)⟩

abbrev PR : Program := PySem.Challenge.rw_ae5044_01.row.prog

theorem union {w : World} {A : Around} {s : Shared} {p : Program} {loose : List Str} {mean : ExcName → Option Value} {mg mb : Str → Option Value} {x d l y dy ly : Addr} {R : Result → Shared → Prop} {V W : List Int}
   (X : (hd.heap_39 w.params).In s.heap) (T : Top p loose mean mg mb s.heap) (hroom : A.depth + 3 < recursionLimit) (hh : A.handled = none) (Ox : OSx s.heap x d l V) (Oy : OSx s.heap y dy ly W)
   (hR : ∀ h' tk r dr lr, Stays s.heap h' → s.heap.get? r = none → s.heap.get? dr = none → s.heap.get? lr = none → OSx h' r dr lr (W.foldl addU V) → R (.ok (.ret (.ref r))) { s with heap := h', toks := tk }) :
   codeAny (model PySem.Challenge.rw_ae5044_01.row.prog w) A (.call (.ref 149) ⟨[.ref x, .ref y], []⟩) R s := by
  revert X; k_fill; intro X
  refine enterS (news := []) [.ref y] (fun v => [("self", .ref x), ("other", v)]) (by simp) X T.nolimit (by k_is) (by k_is) (by omega) (by simp) (by rfl) (fun v => locs rfl) ?_
  intro h₁ L D F N hD
  change Fr s.heap L h₁ _ at F
  change News s.heap L h₁ _ at N
  k_steps
  refine ⟨os_method (s := ⟨h₁, _, _, _, _⟩) (X.keeps F.keep) (Ox.stays F.keep).osat (f := 58) (by kernel_rfl) (by kernel_rfl) ?_⟩
  k_steps
  refine ⟨os_list (s := ⟨h₁, _, _, _, _⟩) (X.keeps F.keep) (Ox.stays F.keep).osat rfl ?_⟩
  obtain ⟨vs, n, hl, hi⟩ := Ox.lst
  have hl1 : h₁.IsList l vs.toArray := ⟨_, F.keep _ _ hl, rfl, n, rfl⟩
  have hlen : vs.length ≤ 9 := by rw [hi.length]; exact Ox.len
  k_steps
  rename_i D' c' h2 F2 N2 lt2
  have hnD : D ≠ D' := Nat.ne_of_lt lt2
  refine ⟨wpAny_call (fromList (s := ⟨h2, _, _, _, _⟩) (X.keeps F2.keep) (T.keeps F2.keep) (by show A.depth + 1 < _; omega) hh (N2.get (.head _)) hi Ox.nodup Ox.small fun h3 tk3 r dr es ep t k3 hr hdr ndr hrg HS hdg => ?_)⟩
  obtain ⟨F3, N3, ne3⟩ := news_new F2 N2 k3 hdr hdg
  obtain ⟨N3, nr3⟩ := news_two F3 N3 F2 k3 N2 hr hrg ndr
  k_steps
  rename_i h4 F4 N4
  refine star_meth (name := "update") (f := 135) (a := r) ?_ (findObj_fnN (by kernel_rfl) (by kernel_rfl) (by kernel_rfl) (by kernel_rfl) (by decide +kernel)) (by kernel_rfl) (by kernel_rfl)
  have O4 : OSat h4 r dr (osO dr D') V := ⟨⟨es, ep, t, N4.get (.head _), HS⟩, rfl, rfl, N4.get (.tail _ (.head _))⟩
  have F5 := F4.push (methodObj (.ref 135) (.ref r))
  have N5 := N4.push F4 (methodObj (.ref 135) (.ref r))
  have lt4 : ∀ p ∈ [(r, osD (osO dr D') es ep t), (dr, dictOf [] 0), (D', PySem.W.listOf vs.toArray c'), (D, tuObj [Value.ref y])], p.1 ≠ h4.objs.size := fun p hp => Nat.ne_of_lt (Heap.lt_size (N4 p hp).1)
  generalize hq : h4.objs.size = q at N5 lt4
  k_steps
  refine ⟨rfl, X.keeps F4.keep, ⟨_, _, _, O4⟩, ?_⟩
  dsimp only
  rw [hq]
  generalize h4.push (methodObj (.ref 135) (.ref r)) = h5 at F5 N5 ⊢
  k_steps
  rename_i h6 F6 N6
  obtain ⟨ys, ny, hly, hiy⟩ := (Oy.stays F6.keep).lst
  have hrn : s.heap.get? r = none := N6.fresh (.tail _ (.head _))
  have hdn : s.heap.get? dr = none := N6.fresh (.tail _ (.tail _ (.head _)))
  have hln : s.heap.get? D' = none := N6.fresh (.tail _ (.tail _ (.tail _ (.head _))))
  have hh6 : ∀ q ∈ [(r, osD (osO dr D') es ep t), (D', liObj vs c')], s.heap.get? q.1 = none := by
    intro q hq
    simp only [List.mem_cons, List.not_mem_nil, or_false] at hq
    rcases hq with rfl | rfl
    · exact hrn
    · exact hln
  have k6 := hid_stays F6.keep hh6
  have O6 : OSx (hid h6 [(r, osD (osO dr D') es ep t), (D', liObj vs c')]) y dy ly W := Oy.stays k6
  refine ⟨⟨N6.get (.head _), X.keeps F6.keep⟩, upd (s := ⟨h6, _, _, _, _⟩) (g := s.heap) X T F6.keep (by show A.depth + 1 + 1 < _; omega) hh hrn hln
    (N6.get (.tail _ (.head _))) HS (N6.get (.tail _ (.tail _ (.head _)))) (N6.get (.tail _ (.tail _ (.tail _ (.head _))))) hi hly hiy Oy.small (Oy.ne hln).2.2 (O6.src (X.keeps k6) (T.keeps k6)) ?_⟩
  intro h7 tk7 es7 ep7 t7 vs7 n7 hr7 HS7 hl7 hi7 k7
  dsimp only
  obtain ⟨F7, N7⟩ := fn_two F6 N6 (x := r) (l := D') (.tail _ (.head _)) (.tail _ (.tail _ (.tail _ (.head _)))) k7 hr7 hl7
  have hrq : r ≠ q := lt4 _ (.head _)
  have hd7 : h7.get? dr = some (dictOf [] 0) := k7 _ _ ndr (ne3 _ (.head _)).symm (N6.get (.tail _ (.tail _ (.head _))))
  clear N7
  k_steps
  exact hR h7 _ r dr D' F7.keep hrn hdn hln ⟨⟨es7, ep7, t7, hr7, HS7⟩, hd7, vs7, n7, hl7, hi7⟩
end Mine

end

section
open PySem PySem.W PyProof.Rows PySem.Calls
namespace Mine
section
variable {prog : Program} {w : World} {A : Around} {s : Shared} {K : Frag} {p : Program} {loose : List Str} {mean : ExcName → Option Value} {mg mb : Str → Option Value} {news : List (Addr × Obj)}

theorem enterC {R : Result → Shared → Prop} {name qual : Str} {params : Arguments} {body : List Stmt} {scope : Scope} {dV kV doc pm cdv ct oc : Value} {an od : Option Addr} {osl : Array (Option Value)} {f : Addr} {args : Args} (binds : List (Str × Value))
    (hn : ∀ p ∈ news, s.heap.get? p.1 = some p.2) (X : K.In s.heap) (hlim : s.heap.NoLimit)
    (ho : K.lookup f = some ⟨oc, od, .func (fnOf name qual params body scope dV kV doc pm an cdv ct), osl⟩) (hcd : codeIn K cdv qual = true) (hroom : A.depth < recursionLimit)
    (hbind : BindsTo s (fnOf name qual params body scope dV kV doc pm an cdv ct) args binds)
    (hkind : (binds.all fun y => scope.names.lookup y.1 == some .local || scope.names.lookup y.1 == some .cell) = true) (hnd : ((cellsFrom 0 scope.names []).map (·.1)).Nodup)
    (h : ∀ h₁ L tk cells, Fr (hid s.heap news) L h₁ (bindL (envOfC qual scope L f cdv).kindOf binds fun _ => none) → News (hid s.heap news) L h₁ (cells ++ news) →
      CellsAre (bindC (envOfC qual scope L f cdv).kindOf binds fun _ => none) (cellsFrom (L + 1) scope.names []) cells →
      wpAny (model prog w) (A.deeper (envOfC qual scope L f cdv)) (execs body (envOfC qual scope L f cdv))
        (fun fl s' => R (.ok (.ret (match fl with | .ret v => v | _ => .none))) s') (fun _ _ => False)
        { s with heap := h₁, toks := tk })
    (hco : scope.isCoroutine = false := by rfl) (hgen : scope.isGenerator = false := by rfl) (hk : scope.kind = .function := by rfl) : codeAny (model prog w) A (.call (.ref f) args) R s := by
  refine codeAny_call_function (fd := fnOf name qual params body scope dV kV doc pm an cdv ct) (body := body) hroom (X _ _ ho) rfl hco hgen rfl (codeRec_of X hcd) (hbind _ _ _ _ ?_)
  refine wpAny_newFunctionEnv_cells hk (kindsX hkind _) fun env' he s' x => ?_
  subst he
  refine ⟨hlim.keeps x.toInCall.keep, codeAny_func ?_⟩
  obtain ⟨h₁, tk, rfl, _⟩ := x.done
  have hk₁ := x.toInCall.keep
  obtain ⟨cells, NC, Y⟩ := Cl.news (h₀ := s.heap) (Nat.le_refl _) fun n c hm => ⟨x.cell n c (lookup_of_mem_nodup (cellsFrom_names scope.names 0 (s.heap.objs.size + 1) [] [] rfl ▸ hnd) hm), x.above n c hm⟩
  refine wpAny_mono (h h₁ s.heap.objs.size tk cells ⟨x.toInCall.ns, fun b o e => hk₁ b o (of_hideAll _ e), Nat.le_of_eq (hideAll_size _ _)⟩ (fun p hp => ?_) Y) (fun _ _ z => z) fun _ _ z => z.elim
  rcases List.mem_append.mp hp with hp | hp
  · refine ⟨(NC p hp).1, (NC p hp).2.1, ?_⟩
    cases q : (hideAll s.heap (news.map (·.1))).get? p.1 with
    | none => rfl
    | some o => have := of_hideAll _ q; rw [(NC p hp).2.2] at this; cases this
  · exact ⟨hk₁ _ _ (hn p hp), Nat.ne_of_lt (Heap.lt_size (hn p hp)), hideAll_none _ (List.mem_map_of_mem hp)⟩

theorem enterCS {R : Result → Shared → Prop} {name qual : Str} {params : Arguments} {body : List Stmt} {scope : Scope} {dV kV doc pm cdv ct oc : Value} {an od : Option Addr} {osl : Array (Option Value)} {f : Addr} {args : Args} (vs : List Value) (binds : Value → List (Str × Value))
    (hn : ∀ p ∈ news, s.heap.get? p.1 = some p.2) (X : K.In s.heap) (hlim : s.heap.NoLimit)
    (ho : K.lookup f = some ⟨oc, od, .func (fnOf name qual params body scope dV kV doc pm an cdv ct), osl⟩) (hcd : codeIn K cdv qual = true) (hroom : A.depth < recursionLimit) (hvs : vs.length ≤ 1000)
    (hbind : bindArgs (fnOf name qual params body scope dV kV doc pm an cdv ct) args = newTuple vs >>= fun v => pure (binds v))
    (hkind : ∀ v, ((binds v).all fun y => scope.names.lookup y.1 == some .local || scope.names.lookup y.1 == some .cell) = true) (hnd : ((cellsFrom 0 scope.names []).map (·.1)).Nodup)
    (h : ∀ h₁ L D tk cells, Fr (hid s.heap news) L h₁ (bindL (envOfC qual scope L f cdv).kindOf (binds (.ref D)) fun _ => none) → News (hid s.heap news) L h₁ (cells ++ (D, tuObj vs) :: news) →
      CellsAre (bindC (envOfC qual scope L f cdv).kindOf (binds (.ref D)) fun _ => none) (cellsFrom (L + 1) scope.names []) cells → (∀ p ∈ news, p.1 ≠ D) →
      wpAny (model prog w) (A.deeper (envOfC qual scope L f cdv)) (execs body (envOfC qual scope L f cdv))
        (fun fl s' => R (.ok (.ret (match fl with | .ret v => v | _ => .none))) s') (fun _ _ => False)
        { s with heap := h₁, toks := tk })
    (hco : scope.isCoroutine = false := by rfl) (hgen : scope.isGenerator = false := by rfl) (hk : scope.kind = .function := by rfl) : codeAny (model prog w) A (.call (.ref f) args) R s := by
  refine codeAny_call_function (fd := fnOf name qual params body scope dV kV doc pm an cdv ct) (body := body) hroom (X _ _ ho) rfl hco hgen rfl (codeRec_of X hcd) ?_
  rw [hbind]
  refine wpAny_bind (wpAny_newObj_type (wpAny_pure ?_) (by show vs.toArray.size ≤ sizeLine; rw [List.size_toArray, sizeLine_eq]; omega))
  have k1 := Stays.push (h := s.heap) (tuObj vs)
  have hD := Heap.get?_push_size s.heap (o := tuObj vs) rfl
  have hsz : (s.heap.push (tuObj vs)).objs.size = s.heap.objs.size + 1 := Heap.size_push _ _
  refine wpAny_newFunctionEnv_cells (s := { s with heap := s.heap.push (tuObj vs) }) hk (kindsX (hkind _) _) fun env' he s' x => ?_
  subst he
  refine ⟨(hlim.keeps k1).keeps x.toInCall.keep, codeAny_func ?_⟩
  obtain ⟨h₁, tk, rfl, _⟩ := x.done
  have hk₁ := x.toInCall.keep
  obtain ⟨cells, NC, Y⟩ := Cl.news (h₀ := s.heap.push (tuObj vs)) (Nat.le_refl _) fun n c hm => ⟨x.cell n c (lookup_of_mem_nodup (cellsFrom_names scope.names 0 ((s.heap.push (tuObj vs)).objs.size + 1) [] [] rfl ▸ hnd) hm), x.above n c hm⟩
  refine wpAny_mono (h h₁ (s.heap.push (tuObj vs)).objs.size s.heap.objs.size tk cells ⟨x.toInCall.ns, fun b o e => hk₁ b o (k1 _ _ (of_hideAll _ e)), ?_⟩ (fun p hp => ?_) Y fun p hp => Nat.ne_of_lt (Heap.lt_size (hn p hp))) (fun _ _ z => z) fun _ _ z => z.elim
  · rw [hsz]; exact Nat.le_succ_of_le (Nat.le_of_eq (hideAll_size _ _))
  rcases List.mem_append.mp hp with hp | hp
  · refine ⟨(NC p hp).1, (NC p hp).2.1, ?_⟩
    show (hid s.heap news).get? p.1 = none
    cases q : (hid s.heap news).get? p.1 with
    | none => rfl
    | some o => have := k1 _ _ (of_hideAll _ q); rw [(NC p hp).2.2] at this; cases this
  · rcases List.mem_cons.mp hp with rfl | hp
    · refine ⟨hk₁ _ _ hD, ?_, ?_⟩
      · rw [hsz]; exact Nat.ne_of_lt (Nat.lt_succ_self _)
      · show (hid s.heap news).get? s.heap.objs.size = none
        cases q : (hid s.heap news).get? s.heap.objs.size with
        | none => rfl
        | some o => have := of_hideAll _ q; rw [get_size] at this; cases this
    · exact ⟨hk₁ _ _ (k1 _ _ (hn p hp)), by rw [hsz]; exact Nat.ne_of_lt (Nat.lt_succ_of_lt (Heap.lt_size (hn p hp))), hideAll_none _ (List.mem_map_of_mem hp)⟩
end
end Mine

end

section
open PySem PySem.W PyProof.Rows PySem.Calls
namespace Mine

def isP (P : Int → Bool) : Value → Bool
  | .int i _ => P i
  | _ => false

theorem IntsAre.filter {vs : List Value} {V : List Int} {P : Int → Bool} (h : IntsAre vs V) : IntsAre (vs.filter (isP P)) (V.filter P) := by
  induction h with
  | nil => exact .nil
  | cons n t _ ih =>
    rw [List.filter_cons, List.filter_cons]
    show IntsAre (if P n = true then _ else _) _
    split
    · exact .cons n t ih
    · exact ih

theorem paired_eq {l l' : List Value} (h : Paired (fun v y => y = v) l l') : l' = l := by
  induction h with
  | nil => rfl
  | cons e _ ih => rw [e, ih]

section
variable {prog : Program} {w : World} {A : Around} {E : Value → Shared → Prop} {s : Shared}

def SrcN (prog : Program) (w : World) (A : Around) (s : Shared) (v : Value) (l : Addr) : Prop :=
  ∀ (E Q : Value → Shared → Prop), (∀ h' tk I, Stays s.heap h' → s.heap.get? I = none → h'.IsListIter I l 0 → Q (.ref I) { s with heap := h', toks := tk }) → wpAny (model prog w) A (pyIter v) Q E s
theorem SrcN.list {l : Addr} {items : Array Value} (hl : s.heap.IsList l items) : SrcN prog w A s (.ref l) l := fun E Q hQ =>
  wpAny_pyIter_list hl (hQ _ _ _ (Stays.push _) (get_size _) ⟨_, Heap.get?_push_size _ rfl, rfl, rfl⟩)

/-- `[x for x in SOURCE if TEST]` over a list of ints; the test is quiet and answers P -/
theorem comp_filterN {env : Env} {x : Str} {px py pos : Pos} {c iter : Expr} {scope : Scope} {cl : List (Str × Addr)} {Q : Value → Shared → Prop} (P : Int → Bool)
    (hh : A.handled = none) 
    (hclos : closureFor scope env = pure cl) (hcell : ∀ y ∈ scope.names, y.2 ≠ .cell) (hkind : scope.kind = .function)
    (hnames : ∀ y ∈ scope.names, y.2 = .local → scope.names.lookup y.1 = some .local) (hx : scope.names.lookup x = some .local) (hdx : (x == ("__debug__" : Str)) = false)
    (h : wpAny (model prog w) A (eval iter env) (fun xv s₁ => Halt (∃ l us U n, SrcN prog w A s₁ xv l ∧ s₁.heap.get? l = some (liObj us n) ∧ IntsAre us U ∧ U.length ≤ 1000 ∧
      (∀ C i tk s₃ m₃ E', i ∈ U → s₁.heap.get? C = none → s₃.heap.Ns C m₃ → m₃ x = some (.int i tk) → Stays s₁.heap s₃.heap →
        wpAny (model prog w) A (isTrue c (compEnvC scope cl C env) (eval c (compEnvC scope cl C env))) (fun ok s₄ => ok = P i ∧ Keeps s₃ s₄) E' s₃) ∧
      (∀ D h' tk ys k, s₁.heap.get? D = none → h'.get? D = some (liObj ys k) → IntsAre ys (U.filter P) → Stays s₁.heap h' → Q (.ref D) { s₁ with heap := h', toks := tk }))) E s)
    (hs : ∀ x, foldedSetIterable iter env x = pure x := by intro _; rfl) :
    wpAny (model prog w) A (eval (.ListComp (.Name x py) [⟨.Name x px, iter, [c], 0⟩] scope pos) env) Q E s := by
  refine wpAny_ListComp_free (isP P) (fun v y => y = v) hclos hcell hkind hnames hx ?_ hs
  refine wpAny_mono h (fun xv s₁ h₁ => ?_) fun _ _ e => e
  obtain ⟨l, us, U, n, src, hl, hu, hU, ht, hQ⟩ := h₁.out
  refine src E _ fun h' tk I k hI hit => ?_
  have hlI : l ≠ I := fun e => by subst e; rw [hl] at hI; cases hI
  have hl' : h'.IsList l us.toArray := ⟨_, k _ _ hl, rfl, n, rfl⟩
  have up : ∀ {s₃ : Shared}, (∀ b o, b ∉ [I] → h'.get? b = some o → s₃.heap.get? b = some o) → Stays s₁.heap s₃.heap := fun hk b o e => hk b o (fun hb => by rw [List.mem_singleton] at hb; subst hb; rw [hI] at e; cases e) (k b o e)
  have none_of : ∀ C, h'.objs.size ≤ C → s₁.heap.get? C = none := fun C hC => by
    cases q : s₁.heap.get? C with
    | none => rfl
    | some o => exact absurd (Heap.lt_size (k _ _ q)) (Nat.not_lt.mpr hC)
  have intOf : ∀ {i : Nat} {v : Value}, us.toArray[i]? = some v → ∃ j t, v = Value.int j t ∧ j ∈ U := fun {i v} hv => by
    have hv' : us[i]? = some v := by simpa using hv
    obtain ⟨t, e⟩ := PyProof.Rows.IntsAre.int_at hu i v hv'
    refine ⟨_, t, e, ?_⟩
    have hi : i < us.length := (List.getElem?_eq_some_iff.mp hv').1
    have hi' : i < U.length := by rw [← hu.length]; exact hi
    rw [List.getD_eq_getElem?_getD, List.getElem?_eq_getElem hi']
    exact List.getElem_mem hi'
  refine ⟨I, [I, l], [I], us.toArray.size, _, _, rfl, Walks.list hh I l hlI us.toArray, by rw [List.size_toArray, hu.length, sizeLine_eq]; omega, ⟨hit, hl'⟩, fun b hb => ?_, ⟨?_, ?_⟩, ?_⟩
  · simp only [List.mem_cons, List.not_mem_nil, or_false] at hb
    rcases hb with rfl | rfl
    · obtain ⟨_, e, _⟩ := hit; exact Heap.lt_size e
    · exact Heap.lt_size (k _ _ hl)
  · intro C i v s₃ m₃ E' hC hv hn hm hk htk
    obtain ⟨j, t, rfl, hj⟩ := intOf hv
    exact wpAny_tests_one (ht C j t s₃ m₃ E' hj (none_of C hC) hn hm (up hk))
  · intro C i v s₃ m₃ E' hC hv hpv hn hm hk htk
    refine wpAny_Name (wpAny_loadName_local (env := compEnvC scope cl C env) (by simp [compEnvC, relabel, hkind]) (lookup_relabel_local hx) hn hm ⟨rfl, s₃.heap, s₃.toks, rfl, fun _ _ e => e⟩) hdx
  · intro D h2 tk2 ys vs hD hD2 hpl hlen hvs hF hk
    have e1 : vs = us := by
      refine List.ext_getElem? fun j => ?_
      cases q : vs[j]? with
      | none =>
        rw [List.getElem?_eq_none_iff] at q
        rw [eq_comm, List.getElem?_eq_none_iff]
        rw [hlen] at q; simpa using q
      | some v => have := hvs j v q; simpa using this.symm
    have e2 := paired_eq hF
    obtain ⟨k2, hk2⟩ := hpl
    have e3 : ys = (us.filter (isP P)).toArray := by rw [← e1, ← e2]
    subst e3
    refine hQ D h2 tk2 (us.filter (isP P)) k2 ?_ hk2 (Mine.IntsAre.filter hu) fun b o e => hk b o (fun hb => by rw [List.mem_singleton] at hb; subst hb; rw [hI] at e; cases e) (k b o e)
    cases q : s₁.heap.get? D with
    | none => rfl
    | some o => have := k _ _ q; rw [hD] at this; cases this

/-- `[x for x in SOURCE if TEST]` over a list of ints; the test is quiet and answers P -/
theorem comp_filter {env : Env} {x : Str} {px py pos : Pos} {c iter : Expr} {scope : Scope} {cl : List (Str × Addr)} {Q : Value → Shared → Prop} (P : Int → Bool)
    (hh : A.handled = none) (hd : A.depth < recursionLimit)
    (hclos : closureFor scope env = pure cl) (hcell : ∀ y ∈ scope.names, y.2 ≠ .cell) (hkind : scope.kind = .function)
    (hnames : ∀ y ∈ scope.names, y.2 = .local → scope.names.lookup y.1 = some .local) (hx : scope.names.lookup x = some .local) (hdx : (x == ("__debug__" : Str)) = false)
    (h : wpAny (model prog w) A (eval iter env) (fun xv s₁ => Halt (∃ g L m l us U n, Src prog w g xv l ∧ Fr g L s₁.heap m ∧ s₁.heap.get? l = some (liObj us n) ∧ IntsAre us U ∧ U.length ≤ 1000 ∧
      (∀ C i tk s₃ m₃ E', i ∈ U → s₁.heap.get? C = none → s₃.heap.Ns C m₃ → m₃ x = some (.int i tk) → Stays s₁.heap s₃.heap →
        wpAny (model prog w) A (isTrue c (compEnvC scope cl C env) (eval c (compEnvC scope cl C env))) (fun ok s₄ => ok = P i ∧ Keeps s₃ s₄) E' s₃) ∧
      (∀ D h' tk ys k, s₁.heap.get? D = none → h'.get? D = some (liObj ys k) → IntsAre ys (U.filter P) → Stays s₁.heap h' → Q (.ref D) { s₁ with heap := h', toks := tk }))) E s)
    (hs : ∀ x, foldedSetIterable iter env x = pure x := by intro _; rfl) :
    wpAny (model prog w) A (eval (.ListComp (.Name x py) [⟨.Name x px, iter, [c], 0⟩] scope pos) env) Q E s := by
  refine comp_filterN P hh hclos hcell hkind hnames hx hdx (wpAny_mono h (fun xv s₁ h₁ => ?_) fun _ _ e => e) hs
  obtain ⟨g, L, m, l, us, U, n, src, F, hl, hu, hU, ht, hQ⟩ := h₁.out
  exact ⟨l, us, U, n, fun E Q q => src A E s₁ Q L m hh hd F q, hl, hu, hU, ht, hQ⟩

theorem test_in {env : Env} {a z : Str} {pa pz pos : Pos} {i : Int} {tk : Tok} {c r : Addr} {o : Obj} {S : List Int} {m : Str → Option Value} {whole : Sem Value} {Q : Bool → Shared → Prop} (hk : env.scope.kind = .function) (ha : env.kindOf a = some .local) (hz : env.kindOf z = some .cell) (hc : env.cells.lookup z = some c)
    (hn : s.heap.Ns env.locals m) (hm : m a = some (.int i tk)) (hcell : s.heap.IsCell c (some (.ref r))) (H : SetAt s.heap r o S) (C : SetCls prog w s.heap o) (P : Sp prog w s.heap o "__contains__" (.builtin "set.__contains__")) (hi : Sm i)
    (hda : (a == ("__debug__" : Str)) = false) (hdz : (z == ("__debug__" : Str)) = false)
    (h : ∀ tk, Q (decide (i ∈ S)) { s with toks := tk }) : wpAny (model prog w) A (isTrue (.Compare (.Name a pa) [.In] [.Name z pz] pos) env whole) Q E s :=
  wpAny_isTrue_Compare1 (wpAny_Name (wpAny_loadName_local hk ha hn hm (wpAny_Name (wpAny_loadName_cell hk hz hc hcell (in_set H C P hi (wpAny_truthy_bool (h _)))) hdz)) hda)
theorem test_notIn {env : Env} {a z : Str} {pa pz pos : Pos} {i : Int} {tk : Tok} {c r : Addr} {o : Obj} {S : List Int} {m : Str → Option Value} {whole : Sem Value} {Q : Bool → Shared → Prop} (hk : env.scope.kind = .function) (ha : env.kindOf a = some .local) (hz : env.kindOf z = some .cell) (hc : env.cells.lookup z = some c)
    (hn : s.heap.Ns env.locals m) (hm : m a = some (.int i tk)) (hcell : s.heap.IsCell c (some (.ref r))) (H : SetAt s.heap r o S) (C : SetCls prog w s.heap o) (P : Sp prog w s.heap o "__contains__" (.builtin "set.__contains__")) (hi : Sm i)
    (hda : (a == ("__debug__" : Str)) = false) (hdz : (z == ("__debug__" : Str)) = false)
    (h : ∀ tk, Q (decide (i ∉ S)) { s with toks := tk }) : wpAny (model prog w) A (isTrue (.Compare (.Name a pa) [.NotIn] [.Name z pz] pos) env whole) Q E s :=
  wpAny_isTrue_Compare1 (wpAny_Name (wpAny_loadName_local hk ha hn hm (wpAny_Name (wpAny_loadName_cell hk hz hc hcell (notIn_set H C P hi (wpAny_truthy_bool (h _)))) hdz)) hda)
end
end Mine

end

section
open PySem PySem.W PyProof.Rows PySem.Calls
namespace Mine
local macro_rules | `(tactic| walk_at "getAttr ref") => `(tactic| refine Mine.halt_at ?_)
local macro_rules | `(tactic| walk_at "getMethod ref") => `(tactic| refine Mine.halt_at ?_)
local macro_rules | `(tactic| walk_at "call ref") => `(tactic| refine Mine.halt_at ?_)
local macro_rules | `(tactic| walk_at "call builtin:set.difference") => `(tactic| refine Mine.halt_at ?_)
local macro_rules | `(tactic| walk_at "call builtin:set.intersection") => `(tactic| refine Mine.halt_at ?_)

theorem get_setattr {w : World} {A : Around} {s : Shared} {E Q : Value → Shared → Prop} {name : Str} {id : String} {expr : Bool} (X : (hd.heap_39 w.params).In s.heap) (e : findCls (hd.heap_39 w.params) (.type "set") (.type "type") name = some (.val (.builtin id))) (hh : handedIn (.builtin id) = true)
    (h : Q (.builtin id) { s with toks := s.toks + 1 }) : wpAny (model PySem.Challenge.rw_ae5044_01.row.prog w) A (getAttr (.type "set") name expr) Q E s := by
  have hstub : opaqueClassAbove (.type "set") = pure none := by unfold opaqueClassAbove; dsimp only; rw [stub_set]; rfl
  have L0 : Looks (model PySem.Challenge.rw_ae5044_01.row.prog w) s.heap (typeOf (.type "set")) (.type "type") := Looks.of_pure type_set
  have hg : findIn (hd.heap_39 w.params) (.type "type") "__getattribute__" = some (some (.builtin "type.__getattribute__")) := type_tga
  have LO : Looks (model PySem.Challenge.rw_ae5044_01.row.prog w) s.heap (opaqueClassAbove (.type "set")) none := Looks.of_pure hstub
  refine cls_open X LO L0 hg (looks_hook X (r := none) (by rfl)) (by show subIn _ _ _ = _; rfl) e
    (wpAny_pure (by show wpAny _ _ (handedOut _) _ _ _; rw [handedOut_of hh]; exact wpAny_pure h))

theorem star_set {w : World} {A : Around} {s : Shared} {E : Value → Shared → Prop} {Q : Value → Shared → Prop} {name : Str} {id : String} {env : Env} {o e : Expr} {rest : List Expr} {apos pos : Pos}
    (h : wpAny (model PySem.Challenge.rw_ae5044_01.row.prog w) A (eval o env) (fun ov s₁ => Halt (ov = .type "set" ∧ (hd.heap_39 w.params).In s₁.heap ∧
      wpAny (model PySem.Challenge.rw_ae5044_01.row.prog w) A (spliced (backTo pos (starEach (e :: rest) env))) (fun vs s₃ => wpAny (model PySem.Challenge.rw_ae5044_01.row.prog w) A (call (.builtin id) vs) Q E s₃) E { s₁ with toks := s₁.toks + 1 })) E s)
    (hf : findCls (hd.heap_39 w.params) (.type "set") (.type "type") name = some (.val (.builtin id))) (hh : handedIn (.builtin id) = true)
    (hb : attributeBase o name env (eval o env) = eval o env := by rfl) (he : starEach (e :: rest) env = (false, eval e env) :: starEach rest env := by rfl) (hst : (backTo pos (starEach rest env)).any (·.1) = true := by rfl)
    (heq : eval (.Call (.Attribute o name apos) (e :: rest) [] pos) env = (do
      let ov ← attributeBase o name env (eval o env)
      standAt apos.atName
      methodCall o name apos pos env ov (e :: rest).length (backTo pos (starEach (e :: rest) env)) []) := by rfl) :
    wpAny (model PySem.Challenge.rw_ae5044_01.row.prog w) A (eval (.Call (.Attribute o name apos) (e :: rest) [] pos) env) Q E s := by
  rw [heq, hb]
  refine wpAny_bind (wpAny_mono h (fun ov s₁ h₁ => wpAny_bind (wpAny_standAt ?_)) fun _ _ x => x)
  obtain ⟨rfl, X1, h1⟩ := h₁.out
  unfold methodCall
  have hany : (backTo pos (starEach (e :: rest) env)).any (·.1) = true := by
    rw [he]; show (false || (backTo pos (starEach rest env)).any (·.1)) = true; rw [hst]; rfl
  have hform : methodCallForm (e :: rest).length (backTo pos (starEach (e :: rest) env)) ([] : List (Option Str × Sem Value)) = false := by
    unfold methodCallForm
    have : ((backTo pos (starEach (e :: rest) env)).all fun x => !x.1) = false := by
      rw [List.all_eq_not_any_not]
      simp only [Bool.not_not, hany, Bool.not_true]
    rw [this]; rfl
  rw [hform]
  refine wpAny_bind (wpAny_holding ?_)
  unfold calleeOf
  simp only [Bool.false_eq_true, if_false]
  refine wpAny_bind (get_setattr X1 hf hh (wpAny_pure ?_))
  unfold methodCallPos
  simp only [Bool.not_false, Bool.true_or, if_true]
  refine wpAny_bind (wpAny_pure ?_)
  refine ks_call (f := .builtin id) (P := fun _ => True) hany (fun _ _ => ⟨.machine, .inr (.inl rfl), Looks.of_pure rfl⟩) ?_
  rw [he] at h1 ⊢
  exact evalArgs_plain (wpAny_mono h1 (fun vs s₂ h2 => ⟨trivial, by simpa using h2⟩) fun _ _ x => x)

theorem Stays.none {h h' : Heap} {b : Addr} (k : Stays h h') (e : h'.get? b = none) : h.get? b = none := by
  cases q : h.get? b with
  | none => rfl
  | some o => rw [k _ _ q] at e; cases e

def SetCall (w : World) (g : Heap) (id : String) (x : Addr) (ys : List Value) (P : Int → Prop) : Prop :=
  ∀ (A : Around) (E Q : Value → Shared → Prop) (s : Shared), A.handled = none → Stays g s.heap →
    (∀ h' tk r es ep t S, Stays s.heap h' → s.heap.get? r = none → h'.get? r = some (osD plainSet es ep t) → SetIs es t S → (∀ i, i ∈ S ↔ P i) → Q (.ref r) { s with heap := h', toks := tk }) →
    wpAny (model PySem.Challenge.rw_ae5044_01.row.prog w) A (call (.builtin id) (.ref x :: ys)) Q E s

theorem inter {w : World} {A : Around} {s : Shared} {p : Program} {loose : List Str} {mean : ExcName → Option Value} {mg mb : Str → Option Value} {x d l : Addr} {R : Result → Shared → Prop} {V : List Int} {ys : List Value} {P : Int → Prop} [DecidablePred P]
   (X : (hd.heap_39 w.params).In s.heap) (T : Top p loose mean mg mb s.heap) (hroom : A.depth + 3 < recursionLimit) (hh : A.handled = none) (Ox : OSx s.heap x d l V) (hys : (∃ y, ys = [y]) ∨ ∃ y z, ys = [y, z])
   (C : ∀ g, Stays s.heap g → SetCall w g "set.intersection" x ys fun i => i ∈ V ∧ P i)
   (hR : ∀ h' tk r dr lr, Stays s.heap h' → s.heap.get? r = none → s.heap.get? dr = none → s.heap.get? lr = none → OSx h' r dr lr (V.filter fun i => decide (P i)) → R (.ok (.ret (.ref r))) { s with heap := h', toks := tk }) :
   codeAny (model PySem.Challenge.rw_ae5044_01.row.prog w) A (.call (.ref 161) ⟨.ref x :: ys, []⟩) R s := by
  have hlen : ys.length ≤ 1000 := by rcases hys with ⟨y, rfl⟩ | ⟨y, z, rfl⟩ <;> simp
  revert X; k_fill; intro X
  refine enterCS (news := []) ys (fun v => [("self", .ref x), ("other", v)]) (by simp) X T.nolimit (by k_is) (by k_is) (by omega) hlen (by rcases hys with ⟨y, rfl⟩ | ⟨y, z, rfl⟩ <;> rfl) (fun v => by rfl) (by decide +kernel) ?_
  intro h₁ L D tk cells F N Y hD
  change Fr s.heap L h₁ _ at F
  change News s.heap L h₁ _ at N
  k_cells Y
  simp only [List.cons_append, List.nil_append] at N
  k_steps
  refine star_set (name := "intersection") (id := "set.intersection") ?_ (by kernel_rfl) (by kernel_rfl)
  k_steps
  refine ⟨rfl, X.keeps F.keep, ?_⟩
  k_steps
  refine star_seq (ws := ys) F N (.tail _ (.head _)) rfl rfl (.inr rfl) (by simp) (by show ys.toArray.size ≤ _; rw [List.size_toArray, sizeLine_eq]; omega) fun h2 F2 N2 => ?_
  dsimp only
  k_steps
  simp only [List.append_nil]
  refine ⟨C h2 F2.keep _ _ _ ⟨h2, _, _, _, _⟩ hh Stays.rfl' fun h3 tk3 r es ep t S k3 hr hrg HS hS => ?_⟩
  obtain ⟨F3, N3, ne3⟩ := news_new F2 N2 k3 hr hrg
  k_steps
  rename_i h4 o4 F4 N4 hd4
  refine ⟨os_method (s := ⟨h4, _, _, _, _⟩) (X.keeps F4.keep) (Ox.stays F4.keep).osat (f := 58) (by kernel_rfl) (by kernel_rfl) ?_⟩
  k_steps
  obtain ⟨us, n, hl, hu⟩ := Ox.lst
  have hlU : V.length ≤ 1000 := by have := Ox.len; omega
  refine comp_filter (cl := [("other_set", L + 1)]) (fun i => decide (P i)) hh (by show A.depth + 1 < _; omega) (by rfl) (by decide) rfl (by decide) rfl rfl ?_
  k_steps
  refine ⟨os_list (s := ⟨h4, _, _, _, _⟩) (X.keeps F4.keep) (Ox.stays F4.keep).osat rfl ⟨s.heap, L, _, l, us, V, n, Src.list (items := us.toArray) ⟨_, hl, rfl, n, rfl⟩, F4, F4.keep _ _ hl, hu, hlU, ?_, ?_⟩⟩
  · intro C' i tk' s₃ m₃ E' hi hC hn hm k'
    have hg3 := k' _ _ (N4.get (.head _))
    refine test_in (S := S) rfl rfl rfl rfl hn hm ⟨o4, k' _ _ (N4.get (.tail _ (.head _))), hd4⟩ ⟨es, ep, t, hg3, HS⟩ plain_cls plain_sp (Ox.small i hi) rfl rfl fun tk4 => ⟨?_, s₃.heap, tk4, rfl, fun _ _ e => e⟩
    rw [decide_eq_decide, hS i]
    exact ⟨fun z => z.2, fun z => ⟨hi, z⟩⟩
  intro D' h5 tk5 ys' k5n hD' hD5 hys' k5
  obtain ⟨F5, N5, ne5⟩ := news_new F4 N4 k5 hD' hD5
  dsimp only
  k_steps
  have kk : Stays s.heap h5 := F5.keep
  exact ⟨wpAny_call (fromList (s := ⟨h5, _, _, _, _⟩) (X.keeps F5.keep) (T.keeps F5.keep) (by show A.depth + 1 < _; omega) hh hD5 hys' (Ox.nodup.filter _) (fun i hi => Ox.small i (List.mem_filter.mp hi).1)
    fun h6 tk6 r6 d6 es6 ep6 t6 k6 hr6 hd6 ne6 hg6 HS6 hdg6 => hR h6 tk6 r6 d6 D' (kk.trans k6) (kk.none hr6) (kk.none hd6) (N5.fresh (.head _)) ⟨⟨es6, ep6, t6, hg6, HS6⟩, hdg6, ys', k5n, k6 _ _ hD5, hys'⟩)⟩

theorem diff {w : World} {A : Around} {s : Shared} {p : Program} {loose : List Str} {mean : ExcName → Option Value} {mg mb : Str → Option Value} {x d l : Addr} {R : Result → Shared → Prop} {V : List Int} {ys : List Value} {P : Int → Prop} [DecidablePred P]
   (X : (hd.heap_39 w.params).In s.heap) (T : Top p loose mean mg mb s.heap) (hroom : A.depth + 3 < recursionLimit) (hh : A.handled = none) (Ox : OSx s.heap x d l V) (hys : (∃ y, ys = [y]) ∨ ∃ y z, ys = [y, z])
   (C : ∀ g, Stays s.heap g → SetCall w g "set.difference" x ys fun i => i ∈ V ∧ P i)
   (hR : ∀ h' tk r dr lr, Stays s.heap h' → s.heap.get? r = none → s.heap.get? dr = none → s.heap.get? lr = none → OSx h' r dr lr (V.filter fun i => decide (P i)) → R (.ok (.ret (.ref r))) { s with heap := h', toks := tk }) :
   codeAny (model PySem.Challenge.rw_ae5044_01.row.prog w) A (.call (.ref 185) ⟨.ref x :: ys, []⟩) R s := by
  have hlen : ys.length ≤ 1000 := by rcases hys with ⟨y, rfl⟩ | ⟨y, z, rfl⟩ <;> simp
  revert X; k_fill; intro X
  refine enterCS (news := []) ys (fun v => [("self", .ref x), ("other", v)]) (by simp) X T.nolimit (by k_is) (by k_is) (by omega) hlen (by rcases hys with ⟨y, rfl⟩ | ⟨y, z, rfl⟩ <;> rfl) (fun v => by rfl) (by decide +kernel) ?_
  intro h₁ L D tk cells F N Y hD
  change Fr s.heap L h₁ _ at F
  change News s.heap L h₁ _ at N
  k_cells Y
  simp only [List.cons_append, List.nil_append] at N
  k_steps
  refine star_set (name := "difference") (id := "set.difference") ?_ (by kernel_rfl) (by kernel_rfl)
  k_steps
  refine ⟨rfl, X.keeps F.keep, ?_⟩
  k_steps
  refine star_seq (ws := ys) F N (.tail _ (.head _)) rfl rfl (.inr rfl) (by simp) (by show ys.toArray.size ≤ _; rw [List.size_toArray, sizeLine_eq]; omega) fun h2 F2 N2 => ?_
  dsimp only
  k_steps
  simp only [List.append_nil]
  refine ⟨C h2 F2.keep _ _ _ ⟨h2, _, _, _, _⟩ hh Stays.rfl' fun h3 tk3 r es ep t S k3 hr hrg HS hS => ?_⟩
  obtain ⟨F3, N3, ne3⟩ := news_new F2 N2 k3 hr hrg
  k_steps
  rename_i h4 o4 F4 N4 hd4
  refine ⟨os_method (s := ⟨h4, _, _, _, _⟩) (X.keeps F4.keep) (Ox.stays F4.keep).osat (f := 58) (by kernel_rfl) (by kernel_rfl) ?_⟩
  k_steps
  obtain ⟨us, n, hl, hu⟩ := Ox.lst
  have hlU : V.length ≤ 1000 := by have := Ox.len; omega
  refine comp_filter (cl := [("other_set", L + 1)]) (fun i => decide (P i)) hh (by show A.depth + 1 < _; omega) (by rfl) (by decide) rfl (by decide) rfl rfl ?_
  k_steps
  refine ⟨os_list (s := ⟨h4, _, _, _, _⟩) (X.keeps F4.keep) (Ox.stays F4.keep).osat rfl ⟨s.heap, L, _, l, us, V, n, Src.list (items := us.toArray) ⟨_, hl, rfl, n, rfl⟩, F4, F4.keep _ _ hl, hu, hlU, ?_, ?_⟩⟩
  · intro C' i tk' s₃ m₃ E' hi hC hn hm k'
    have hg3 := k' _ _ (N4.get (.head _))
    refine test_in (S := S) rfl rfl rfl rfl hn hm ⟨o4, k' _ _ (N4.get (.tail _ (.head _))), hd4⟩ ⟨es, ep, t, hg3, HS⟩ plain_cls plain_sp (Ox.small i hi) rfl rfl fun tk4 => ⟨?_, s₃.heap, tk4, rfl, fun _ _ e => e⟩
    rw [decide_eq_decide, hS i]
    exact ⟨fun z => z.2, fun z => ⟨hi, z⟩⟩
  intro D' h5 tk5 ys' k5n hD' hD5 hys' k5
  obtain ⟨F5, N5, ne5⟩ := news_new F4 N4 k5 hD' hD5
  dsimp only
  k_steps
  have kk : Stays s.heap h5 := F5.keep
  exact ⟨wpAny_call (fromList (s := ⟨h5, _, _, _, _⟩) (X.keeps F5.keep) (T.keeps F5.keep) (by show A.depth + 1 < _; omega) hh hD5 hys' (Ox.nodup.filter _) (fun i hi => Ox.small i (List.mem_filter.mp hi).1)
    fun h6 tk6 r6 d6 es6 ep6 t6 k6 hr6 hd6 ne6 hg6 HS6 hdg6 => hR h6 tk6 r6 d6 D' (kk.trans k6) (kk.none hr6) (kk.none hd6) (N5.fresh (.head _)) ⟨⟨es6, ep6, t6, hg6, HS6⟩, hdg6, ys', k5n, k6 _ _ hD5, hys'⟩)⟩
end Mine

end

section
open PySem PySem.W PyProof.Rows PySem.Calls
namespace Mine
theorem os_isset {prog : Program} {w : World} {A : Around} {E : Value → Shared → Prop} {s : Shared} {a : Addr} {o : Obj} {S : List Int} {Q : Value → Shared → Prop} (H : SetAt s.heap a o S) (C : SetCls prog w s.heap o) (h : Q (.bool true) s) :
    wpAny (model prog w) A (call (.builtin "isinstance") [.ref a, .type "set"]) Q E s := by
  refine call_isinstance_of ?_ (by intro e; cases e)
  have L3 := H.inst C
  obtain ⟨es, ep, t, hg, HS⟩ := H
  have L1 := looks_cls (M := model prog w) hg
  obtain ⟨hh, g, d, tt, os⟩ := s
  unfold Builtin.«isinstance.nested»
  refine wpAny_bind (L1.at ?_)
  split
  · refine wpAny_bind (wpAny_rule ?_)
    exact wpAny_pure h
  · rw [type_set]
    refine wpAny_bind (wpAny_pure ?_)
    rw [if_pos (by decide)]
    k_delta "plainIsInstance"
    refine wpAny_bind (wpAny_bind ?_)
    show wpAny _ _ (pure true) _ _ _
    refine wpAny_pure ?_
    simp only [Bool.not_true, Bool.false_eq_true, if_false]
    refine wpAny_bind (L3.at ?_)
    simp only [if_true]
    exact wpAny_pure (wpAny_pure h)
end Mine

end

section
open PySem PySem.W PyProof.Rows PySem.Calls
namespace Mine
local macro_rules | `(tactic| walk_at "getAttr ref") => `(tactic| refine Mine.halt_at ?_)
local macro_rules | `(tactic| walk_at "getMethod ref") => `(tactic| refine Mine.halt_at ?_)
local macro_rules | `(tactic| walk_at "call builtin:isinstance") => `(tactic| refine Mine.halt_at ?_)
local macro_rules | `(tactic| walk_at "call ref") => `(tactic| refine Mine.halt_at ?_)

theorem xor {w : World} {A : Around} {s : Shared} {p : Program} {loose : List Str} {mean : ExcName → Option Value} {mg mb : Str → Option Value} {x d l y dy ly : Addr} {R : Result → Shared → Prop} {V W : List Int}
   (X : (hd.heap_39 w.params).In s.heap) (T : Top p loose mean mg mb s.heap) (hroom : A.depth + 3 < recursionLimit) (hh : A.handled = none) (Ox : OSx s.heap x d l V) (Oy : OSx s.heap y dy ly W)
   (hR : ∀ h' tk r dr lr, Stays s.heap h' → s.heap.get? r = none → s.heap.get? dr = none → s.heap.get? lr = none → OSx h' r dr lr ((W.filter fun i => decide (i ∉ V)).foldl addU (V.filter fun i => decide (i ∉ W))) → R (.ok (.ret (.ref r))) { s with heap := h', toks := tk }) :
   codeAny (model PySem.Challenge.rw_ae5044_01.row.prog w) A (.call (.ref 173) ⟨[.ref x, .ref y], []⟩) R s := by
  revert X; k_fill; intro X
  refine enterC (news := []) [("self", .ref x), ("other", .ref y)] (by simp) X T.nolimit (by k_is) (by k_is) (by omega) (BindsTo.of_eq rfl) (by rfl) (by decide +kernel) ?_
  intro h₁ L tk cells F N Y
  change Fr s.heap L h₁ _ at F
  change News s.heap L h₁ _ at N
  k_cells Y
  simp only [List.cons_append, List.nil_append] at N
  k_steps
  refine ⟨os_isset (s := ⟨h₁, _, _, _, _⟩) (Oy.stays F.keep).osat.set (os_cls (X.keeps F.keep) rfl) ?_⟩
  k_steps
  rename_i oZ o2 d1 d2 hA oA dA h2 F2 N2
  obtain ⟨us, n, hl, hu⟩ := Ox.lst
  obtain ⟨ys, ny, hly, hiy⟩ := Oy.lst
  have hlU : V.length ≤ 1000 := by have := Ox.len; omega
  have hlW : W.length ≤ 1000 := by have := Oy.len; omega
  refine ⟨os_method (s := ⟨h2, _, _, _, _⟩) (X.keeps F2.keep) (Ox.stays F2.keep).osat (f := 58) (by kernel_rfl) (by kernel_rfl) ?_⟩
  k_steps
  refine comp_filter (cl := [("other_set", L + 1 + 1)]) (fun i => decide (i ∉ W)) hh (by show A.depth + 1 < _; omega) (by rfl) (by decide) rfl (by decide) rfl rfl ?_
  k_steps
  refine ⟨os_list (s := ⟨h2, _, _, _, _⟩) (X.keeps F2.keep) (Ox.stays F2.keep).osat rfl ⟨s.heap, L, _, l, us, V, n, Src.list (items := us.toArray) ⟨_, hl, rfl, n, rfl⟩, F2, F2.keep _ _ hl, hu, hlU, ?_, ?_⟩⟩
  · intro C' i tk' s₃ m₃ E' hi hC hn hm k'
    have kk : Stays s.heap s₃.heap := Stays.trans F2.keep k'
    exact test_notIn (S := W) rfl rfl rfl rfl hn hm ⟨oA, k' _ _ (N2.get (.head _)), dA⟩ (Oy.stays kk).osat.set (os_cls (X.keeps kk) rfl) (os_contains (X.keeps kk) rfl) (Ox.small i hi) rfl rfl fun tk4 => ⟨rfl, s₃.heap, tk4, rfl, fun _ _ e => e⟩
  intro D' h5 tk5 ys' k5n hD' hD5 hys' k5
  obtain ⟨F5, N5, ne5⟩ := news_new F2 N2 k5 hD' hD5
  have hDl : s.heap.get? D' = none := N5.fresh (.head _)
  dsimp only
  k_steps
  refine ⟨wpAny_call (fromList (s := ⟨h5, _, _, _, _⟩) (X.keeps F5.keep) (T.keeps F5.keep) (by show A.depth + 1 < _; omega) hh hD5 hys' (Ox.nodup.filter _) (fun i hi => Ox.small i (List.mem_filter.mp hi).1)
    fun h6 tk6 r6 d6 es6 ep6 t6 k6 hr6 hd6 ne6 hg6 HS6 hdg6 => ?_)⟩
  obtain ⟨F6, N6, lt6⟩ := news_new F5 N5 k6 hd6 hdg6
  obtain ⟨N6, nr6⟩ := news_two F6 N6 F5 k6 N5 hr6 hg6 ne6
  k_steps
  rename_i h7 F7 N7
  have O7 : OSat h7 r6 d6 (osO d6 D') (V.filter fun i => decide (i ∉ W)) := ⟨⟨es6, ep6, t6, N7.get (.head _), HS6⟩, rfl, rfl, N7.get (.tail _ (.head _))⟩
  refine ⟨os_method (s := ⟨h7, _, _, _, _⟩) (X.keeps F7.keep) O7 (f := 135) (by kernel_rfl) (by kernel_rfl) ?_⟩
  k_steps
  refine comp_filter (cl := [("self", L + 1)]) (fun i => decide (i ∉ V)) hh (by show A.depth + 1 < _; omega) (by rfl) (by decide) rfl (by decide) rfl rfl ?_
  k_steps
  refine ⟨s.heap, L, _, ly, ys, W, ny, Oy.src X T, F7, F7.keep _ _ hly, hiy, hlW, ?_, ?_⟩
  · intro C' i tk' s₃ m₃ E' hi hC hn hm k'
    have kk : Stays s.heap s₃.heap := Stays.trans F7.keep k'
    exact test_notIn (S := V) rfl rfl rfl rfl hn hm ⟨o2, k' _ _ (N7.get (.tail _ (.tail _ (.tail _ (.tail _ (.head _)))))), d2⟩ (Ox.stays kk).osat.set (os_cls (X.keeps kk) rfl) (os_contains (X.keeps kk) rfl) (Oy.small i hi) rfl rfl fun tk4 => ⟨rfl, s₃.heap, tk4, rfl, fun _ _ e => e⟩
  intro D2 h8 tk8 zs' k8n hD2 hD8 hzs' k8
  obtain ⟨F8, N8, ne8⟩ := news_new F7 N7 k8 hD2 hD8
  dsimp only
  k_steps
  have hrn : s.heap.get? r6 = none := N8.fresh (.tail _ (.head _))
  have hdn : s.heap.get? d6 = none := N8.fresh (.tail _ (.tail _ (.head _)))
  have hh8 : ∀ q ∈ [(r6, osD (osO d6 D') es6 ep6 t6), (D', liObj ys' k5n)], s.heap.get? q.1 = none := by
    intro q hq
    simp only [List.mem_cons, List.not_mem_nil, or_false] at hq
    rcases hq with rfl | rfl
    · exact hrn
    · exact hDl
  have hD2r : D2 ≠ r6 := (ne8 _ (.head _)).symm
  have hD2D : D2 ≠ D' := (ne8 _ (.tail _ (.tail _ (.head _)))).symm
  have hl8 : (hid h8 [(r6, osD (osO d6 D') es6 ep6 t6), (D', liObj ys' k5n)]).IsList D2 zs'.toArray := ⟨_, hideAll_get _ hD8 (by simp [hD2r, hD2D]), rfl, k8n, rfl⟩
  refine ⟨wpAny_call (upd (s := ⟨h8, _, _, _, _⟩) (g := s.heap) X T F8.keep (by show A.depth + 1 + 1 < _; omega) hh hrn hDl
    (N8.get (.tail _ (.head _))) HS6 (N8.get (.tail _ (.tail _ (.head _)))) (N8.get (.tail _ (.tail _ (.tail _ (.head _))))) hys' hD8 hzs' (fun i hi => Oy.small i (List.mem_filter.mp hi).1) hD2D (Src.list hl8) ?_)⟩
  intro h9 tk9 es9 ep9 t9 vs9 n9 hr9 HS9 hl9 hi9 k9
  dsimp only
  obtain ⟨F9, N9⟩ := fn_two F8 N8 (x := r6) (l := D') (.tail _ (.head _)) (.tail _ (.tail _ (.tail _ (.head _)))) k9 hr9 hl9
  have hd9 : h9.get? d6 = some (dictOf [] 0) := k9 _ _ ne6 (lt6 _ (.head _)).symm (N8.get (.tail _ (.tail _ (.head _))))
  clear N9
  k_steps
  exact hR h9 _ r6 d6 D' F9.keep hrn hdn hDl ⟨⟨es9, ep9, t9, hr9, HS9⟩, hd9, vs9, n9, hl9, hi9⟩
end Mine

end

section
open PySem PySem.W PyProof.Rows PySem.Calls
namespace Mine
local macro_rules | `(tactic| walk_at "getAttr ref") => `(tactic| refine Mine.halt_at ?_)
local macro_rules | `(tactic| walk_at "getMethod ref") => `(tactic| refine Mine.halt_at ?_)
local macro_rules | `(tactic| walk_at "call ref") => `(tactic| refine Mine.halt_at ?_)

/-- a method of two OrderedSets that answers with a new one -/
def OpAt (w : World) (k : Nat) (f : Addr) (op : List Int → List Int → List Int) : Prop :=
  ∀ (A : Around) (s : Shared) (p : Program) (loose : List Str) (mean : ExcName → Option Value) (mg mb : Str → Option Value) (x d l y dy ly : Addr) (R : Result → Shared → Prop) (V W : List Int),
    (hd.heap_39 w.params).In s.heap → Top p loose mean mg mb s.heap → A.depth + k < recursionLimit → A.handled = none → OSx s.heap x d l V → OSx s.heap y dy ly W →
    (∀ h' tk r dr lr, Stays s.heap h' → s.heap.get? r = none → s.heap.get? dr = none → s.heap.get? lr = none → OSx h' r dr lr (op V W) → R (.ok (.ret (.ref r))) { s with heap := h', toks := tk }) →
    codeAny (model PySem.Challenge.rw_ae5044_01.row.prog w) A (.call (.ref f) ⟨[.ref x, .ref y], []⟩) R s

abbrev unionL (V W : List Int) : List Int := W.foldl addU V
abbrev interL (V W : List Int) : List Int := V.filter fun i => decide (i ∈ W)
abbrev diffL (V W : List Int) : List Int := V.filter fun i => decide (i ∉ W)
abbrev xorL (V W : List Int) : List Int := unionL (diffL V W) (diffL W V)

theorem inter_sc {w : World} {g : Heap} {x d l y dy ly : Addr} {V W : List Int} (X : (hd.heap_39 w.params).In g) (Ox : OSx g x d l V) (Oy : OSx g y dy ly W) : SetCall w g "set.intersection" x [.ref y] fun i => i ∈ V ∧ i ∈ W := by
  intro A E Q s hh k hQ
  refine set_inter (Ox.stays k).osat.set (Oy.stays k).osat.set (os_cls (X.keeps k) rfl) (os_cls (X.keeps k) rfl) fun h' R k' ⟨es, ep, t, hg, HS⟩ hR => ?_
  exact hQ h' s.toks _ es ep t R k' (get_size _) hg HS hR
theorem diff_sc {w : World} {g : Heap} {x d l y dy ly : Addr} {V W : List Int} (X : (hd.heap_39 w.params).In g) (Ox : OSx g x d l V) (Oy : OSx g y dy ly W) : SetCall w g "set.difference" x [.ref y] fun i => i ∈ V ∧ i ∉ W := by
  intro A E Q s hh k hQ
  refine set_diff (Ox.stays k).osat.set (Oy.stays k).osat.set (os_cls (X.keeps k) rfl) (os_cls (X.keeps k) rfl) fun h' R k' ⟨es, ep, t, hg, HS⟩ hR => ?_
  exact hQ h' s.toks _ es ep t R k' (get_size _) hg HS hR

theorem union_op (w : World) : OpAt w 3 149 unionL := fun A s p loose mean mg mb x d l y dy ly R V W X T hr hh Ox Oy hR => union X T hr hh Ox Oy hR
theorem xor_op (w : World) : OpAt w 3 173 xorL := fun A s p loose mean mg mb x d l y dy ly R V W X T hr hh Ox Oy hR => xor X T hr hh Ox Oy hR
theorem inter_op (w : World) : OpAt w 3 161 interL := fun A s p loose mean mg mb x d l y dy ly R V W X T hr hh Ox Oy hR =>
  inter (P := fun i => i ∈ W) X T hr hh Ox (.inl ⟨_, rfl⟩) (fun g k => inter_sc (X.keeps k) (Ox.stays k) (Oy.stays k)) hR
theorem diff_op (w : World) : OpAt w 3 185 diffL := fun A s p loose mean mg mb x d l y dy ly R V W X T hr hh Ox Oy hR =>
  diff (P := fun i => i ∉ W) X T hr hh Ox (.inl ⟨_, rfl⟩) (fun g k => diff_sc (X.keeps k) (Ox.stays k) (Oy.stays k)) hR

theorem or_op (w : World) : OpAt w 4 156 unionL := by
  intro A s p loose mean mg mb x d l y dy ly R V W X T hr hh Ox Oy hR
  revert X; k_fill; intro X
  refine enterN (news := []) [("self", .ref x), ("other", .ref y)] (by simp) X T.nolimit (by k_is) (by k_is) (by omega) (BindsTo.of_eq rfl) (locs rfl) ?_
  intro h₁ L F N
  change Fr s.heap L h₁ _ at F
  change News s.heap L h₁ _ at N
  k_steps
  refine ⟨os_method (s := ⟨h₁, _, _, _, _⟩) (X.keeps F.keep) (Ox.stays F.keep).osat (f := 149) (by kernel_rfl) (by kernel_rfl) ?_⟩
  k_steps
  have kk : Stays s.heap h₁ := F.keep
  exact ⟨wpAny_call (union_op w _ ⟨h₁, _, _, _, _⟩ _ _ _ _ _ _ _ _ _ _ _ _ _ _ (X.keeps kk) (T.keeps kk) (by show A.depth + 1 + 3 < _; omega) hh (Ox.stays kk) (Oy.stays kk) fun h' tk r dr lr k a b c O => hR h' tk r dr lr (kk.trans k) (kk.none a) (kk.none b) (kk.none c) O)⟩
theorem and_op (w : World) : OpAt w 4 168 interL := by
  intro A s p loose mean mg mb x d l y dy ly R V W X T hr hh Ox Oy hR
  revert X; k_fill; intro X
  refine enterN (news := []) [("self", .ref x), ("other", .ref y)] (by simp) X T.nolimit (by k_is) (by k_is) (by omega) (BindsTo.of_eq rfl) (locs rfl) ?_
  intro h₁ L F N
  change Fr s.heap L h₁ _ at F
  change News s.heap L h₁ _ at N
  k_steps
  refine ⟨os_method (s := ⟨h₁, _, _, _, _⟩) (X.keeps F.keep) (Ox.stays F.keep).osat (f := 161) (by kernel_rfl) (by kernel_rfl) ?_⟩
  k_steps
  have kk : Stays s.heap h₁ := F.keep
  exact ⟨wpAny_call (inter_op w _ ⟨h₁, _, _, _, _⟩ _ _ _ _ _ _ _ _ _ _ _ _ _ _ (X.keeps kk) (T.keeps kk) (by show A.depth + 1 + 3 < _; omega) hh (Ox.stays kk) (Oy.stays kk) fun h' tk r dr lr k a b c O => hR h' tk r dr lr (kk.trans k) (kk.none a) (kk.none b) (kk.none c) O)⟩
theorem sub_op (w : World) : OpAt w 4 192 diffL := by
  intro A s p loose mean mg mb x d l y dy ly R V W X T hr hh Ox Oy hR
  revert X; k_fill; intro X
  refine enterN (news := []) [("self", .ref x), ("other", .ref y)] (by simp) X T.nolimit (by k_is) (by k_is) (by omega) (BindsTo.of_eq rfl) (locs rfl) ?_
  intro h₁ L F N
  change Fr s.heap L h₁ _ at F
  change News s.heap L h₁ _ at N
  k_steps
  refine ⟨os_method (s := ⟨h₁, _, _, _, _⟩) (X.keeps F.keep) (Ox.stays F.keep).osat (f := 185) (by kernel_rfl) (by kernel_rfl) ?_⟩
  k_steps
  have kk : Stays s.heap h₁ := F.keep
  exact ⟨wpAny_call (diff_op w _ ⟨h₁, _, _, _, _⟩ _ _ _ _ _ _ _ _ _ _ _ _ _ _ (X.keeps kk) (T.keeps kk) (by show A.depth + 1 + 3 < _; omega) hh (Ox.stays kk) (Oy.stays kk) fun h' tk r dr lr k a b c O => hR h' tk r dr lr (kk.trans k) (kk.none a) (kk.none b) (kk.none c) O)⟩
theorem xr_op (w : World) : OpAt w 4 180 xorL := by
  intro A s p loose mean mg mb x d l y dy ly R V W X T hr hh Ox Oy hR
  revert X; k_fill; intro X
  refine enterN (news := []) [("self", .ref x), ("other", .ref y)] (by simp) X T.nolimit (by k_is) (by k_is) (by omega) (BindsTo.of_eq rfl) (locs rfl) ?_
  intro h₁ L F N
  change Fr s.heap L h₁ _ at F
  change News s.heap L h₁ _ at N
  k_steps
  refine ⟨os_method (s := ⟨h₁, _, _, _, _⟩) (X.keeps F.keep) (Ox.stays F.keep).osat (f := 173) (by kernel_rfl) (by kernel_rfl) ?_⟩
  k_steps
  have kk : Stays s.heap h₁ := F.keep
  exact ⟨wpAny_call (xor_op w _ ⟨h₁, _, _, _, _⟩ _ _ _ _ _ _ _ _ _ _ _ _ _ _ (X.keeps kk) (T.keeps kk) (by show A.depth + 1 + 3 < _; omega) hh (Ox.stays kk) (Oy.stays kk) fun h' tk r dr lr k a b c O => hR h' tk r dr lr (kk.trans k) (kk.none a) (kk.none b) (kk.none c) O)⟩
end Mine

end

section
local macro_rules | `(tactic| walk_at "nowhere") => `(tactic| trivial)
open PySem PySem.W PyProof.Rows PySem.Calls
namespace Mine
local macro_rules | `(tactic| walk_at "getAttr ref") => `(tactic| refine Mine.halt_at ?_)
local macro_rules | `(tactic| walk_at "getMethod ref") => `(tactic| refine Mine.halt_at ?_)
local macro_rules | `(tactic| walk_at "call ref") => `(tactic| refine Mine.halt_at ?_)

theorem copy_os {w : World} {A : Around} {s : Shared} {p : Program} {loose : List Str} {mean : ExcName → Option Value} {mg mb : Str → Option Value} {x d l : Addr} {R : Result → Shared → Prop} {V : List Int}
   (X : (hd.heap_39 w.params).In s.heap) (T : Top p loose mean mg mb s.heap) (hroom : A.depth + 3 < recursionLimit) (hh : A.handled = none) (Ox : OSx s.heap x d l V)
   (hR : ∀ h' tk r dr lr, Stays s.heap h' → s.heap.get? r = none → s.heap.get? dr = none → s.heap.get? lr = none → OSx h' r dr lr V → R (.ok (.ret (.ref r))) { s with heap := h', toks := tk }) :
   codeAny (model PySem.Challenge.rw_ae5044_01.row.prog w) A (.call (.ref 51) ⟨[.ref x], []⟩) R s := by
  revert X; k_fill; intro X
  refine enterN (news := []) [("self", .ref x)] (by simp) X T.nolimit (by k_is) (by k_is) (by omega) (BindsTo.of_eq rfl) (locs rfl) ?_
  intro h₁ L F N
  change Fr s.heap L h₁ _ at F
  change News s.heap L h₁ _ at N
  k_steps
  refine ⟨os_method (s := ⟨h₁, _, _, _, _⟩) (X.keeps F.keep) (Ox.stays F.keep).osat (f := 58) (by kernel_rfl) (by kernel_rfl) ?_⟩
  k_steps
  refine ⟨os_list (s := ⟨h₁, _, _, _, _⟩) (X.keeps F.keep) (Ox.stays F.keep).osat rfl ?_⟩
  obtain ⟨vs, n, hl, hi⟩ := Ox.lst
  have hl1 : h₁.IsList l vs.toArray := ⟨_, F.keep _ _ hl, rfl, n, rfl⟩
  have hlen : vs.length ≤ 9 := by rw [hi.length]; exact Ox.len
  k_steps
  rename_i D' c' h2 F2 N2 lt2
  have kk : Stays s.heap h2 := F2.keep
  exact ⟨wpAny_call (fromList (s := ⟨h2, _, _, _, _⟩) (X.keeps F2.keep) (T.keeps F2.keep) (by show A.depth + 1 < _; omega) hh (N2.get (.head _)) hi Ox.nodup Ox.small
    fun h3 tk3 r dr es ep t k3 hr hdr ndr hrg HS hdg => hR h3 tk3 r dr D' (kk.trans k3) (kk.none hr) (kk.none hdr) (N2.fresh (.head _)) ⟨⟨es, ep, t, hrg, HS⟩, hdg, vs, c', k3 _ _ (N2.get (.head _)), hi⟩)⟩

/-- a method that changes its first OrderedSet in place and answers with `ans` -/
def InAt (w : World) (k : Nat) (f : Addr) (op : List Int → List Int → List Int) (ans : Addr → Value) : Prop :=
  ∀ (A : Around) (s : Shared) (p : Program) (loose : List Str) (mean : ExcName → Option Value) (mg mb : Str → Option Value) (x d l y dy ly : Addr) (R : Result → Shared → Prop) (V W : List Int) (g : Heap),
    (hd.heap_39 w.params).In g → Top p loose mean mg mb g → Stays g s.heap → A.depth + k < recursionLimit → A.handled = none → g.get? x = none → g.get? l = none →
    OSx s.heap x d l V → OSx s.heap y dy ly W → y ≠ x → ly ≠ l → W.length < 8 →
    (∀ h' tk l', (l' = l ∨ s.heap.get? l' = none) → OSx h' x d l' (op V W) → (∀ b z, b ≠ x → b ≠ l → s.heap.get? b = some z → h'.get? b = some z) → R (.ok (.ret (ans x))) { s with heap := h', toks := tk }) →
    codeAny (model PySem.Challenge.rw_ae5044_01.row.prog w) A (.call (.ref f) ⟨[.ref x, .ref y], []⟩) R s

theorem OSx.apart {h : Heap} {x d l y dy ly : Addr} {V W : List Int} {ox ol : Obj} (Ox : OSx h x d l V) (Oy : OSx h y dy ly W) (nx : y ≠ x) (nl : ly ≠ l) : OSx (Mine.hid h [(x, ox), (l, ol)]) y dy ly W := by
  obtain ⟨⟨es, ep, t, a1, _⟩, b1, vs, n, c1, _⟩ := Ox
  obtain ⟨⟨es', ep', t', a2, _⟩, b2, vs', n', c2, _⟩ := id Oy
  refine Oy.hid fun p hp => ?_
  simp only [List.mem_cons, List.not_mem_nil, or_false] at hp
  rcases hp with rfl | rfl
  · refine ⟨nx.symm, fun e => ?_, fun e => ?_⟩ <;> dsimp only at e <;> subst e <;> simp_all
  · refine ⟨fun e => ?_, fun e => ?_, nl.symm⟩ <;> dsimp only at e <;> subst e <;> simp_all

theorem OSx.dict_hid {h : Heap} {x d l : Addr} {V : List Int} {ox ol : Obj} (Ox : OSx h x d l V) : (Mine.hid h [(x, ox), (l, ol)]).get? d = some (dictOf [] 0) := by
  obtain ⟨⟨es, ep, t, a1, _⟩, b1, vs, n, c1, _⟩ := Ox
  refine hideAll_get _ b1 fun hm => ?_
  simp only [List.map_cons, List.map_nil, List.mem_cons, List.not_mem_nil, or_false] at hm
  rcases hm with e | e <;> subst e <;> simp_all

theorem ior_in (w : World) : InAt w 3 142 unionL (fun x => .ref x) := by
  intro A s p loose mean mg mb x d l y dy ly R V W g X T kg hr hh gx gl Ox Oy nx nl _ hR
  obtain ⟨es, ep, t, hx, H⟩ := Ox.obj
  obtain ⟨vs, n, hl, hi⟩ := Ox.lst
  have hdx := Ox.dat
  have hn : ∀ p ∈ [(x, osD (osO d l) es ep t), (l, liObj vs n)], s.heap.get? p.1 = some p.2 := by
    intro p hp
    simp only [List.mem_cons, List.not_mem_nil, or_false] at hp
    rcases hp with rfl | rfl
    · exact hx
    · exact hl
  have kh : Stays g (hid s.heap [(x, osD (osO d l) es ep t), (l, liObj vs n)]) := hid_stays kg (by simp [gx, gl])
  have X0 := X.keeps kh
  have T0 := T.keeps kh
  have Oy0 := Ox.apart (ox := osD (osO d l) es ep t) (ol := liObj vs n) Oy nx nl
  have hd0 := Ox.dict_hid (ox := osD (osO d l) es ep t) (ol := liObj vs n)
  have Xs := X.keeps kg
  have Ts := T.keeps kg
  clear X T
  revert X0; k_fill; intro X0
  refine enterN [("self", .ref x), ("iterable", .ref y)] hn Xs Ts.nolimit (by k_is) (by k_is) (by omega) (BindsTo.of_eq rfl) (locs rfl) ?_
  clear Xs Ts
  intro h₁ L F N
  k_steps
  refine ⟨os_method (s := ⟨h₁, _, _, _, _⟩) (X0.keeps F.keep) (S := V) ⟨⟨es, ep, t, N.get (.head _), H⟩, rfl, rfl, F.keep _ _ hd0⟩ (f := 135) (by kernel_rfl) (by kernel_rfl) ?_⟩
  k_steps
  obtain ⟨ys, ny, hly, hiy⟩ := Oy0.lst
  have hf : ∀ q ∈ [(x, osD (osO d l) es ep t), (l, liObj vs n)], (hid s.heap [(x, osD (osO d l) es ep t), (l, liObj vs n)]).get? q.1 = none := fun q hq => N.fresh hq
  have Ox1 : OSx h₁ x d l V := ⟨⟨es, ep, t, N.get (.head _), H⟩, F.keep _ _ hd0, vs, n, N.get (.tail _ (.head _)), hi⟩
  have k1 := hid_stays (h := h₁) F.keep hf
  have Oy1 : OSx (hid h₁ [(x, osD (osO d l) es ep t), (l, liObj vs n)]) y dy ly W := Oy0.stays k1
  refine ⟨wpAny_call (upd (s := ⟨h₁, _, _, _, _⟩) X0 T0 F.keep (by show A.depth + 1 + 1 < _; omega) hh (N.fresh (.head _)) (N.fresh (.tail _ (.head _))) (N.get (.head _)) H (F.keep _ _ hd0) (N.get (.tail _ (.head _))) hi (F.keep _ _ hly) hiy Oy.small nl
    (Oy1.src (X0.keeps k1) (T0.keeps k1)) ?_)⟩
  intro h7 tk7 es7 ep7 t7 vs7 n7 hr7 HS7 hl7 hi7 k7
  dsimp only
  obtain ⟨F7, N7⟩ := fn_two F N (x := x) (l := l) (.head _) (.tail _ (.head _)) k7 hr7 hl7
  clear N7
  k_steps
  exact hR h7 _ l (.inl rfl) ⟨⟨es7, ep7, t7, hr7, HS7⟩, F7.keep _ _ hd0, vs7, n7, hl7, hi7⟩ fun b z nb nl e => F7.keep b z (hideAll_get _ e (by simp [nb, nl]))
end Mine

end

section
open PySem PySem.W PyProof.Rows PySem.Calls
namespace Mine
local macro_rules | `(tactic| walk_at "getAttr ref") => `(tactic| refine Mine.halt_at ?_)
local macro_rules | `(tactic| walk_at "setAttr ref") => `(tactic| refine Mine.halt_at ?_)
local macro_rules | `(tactic| walk_at "getMethod ref") => `(tactic| refine Mine.halt_at ?_)
local macro_rules | `(tactic| walk_at "call ref") => `(tactic| refine Mine.halt_at ?_)
local macro_rules | `(tactic| walk_at "call builtin:set.intersection_update") => `(tactic| refine Mine.halt_at ?_)

theorem set_listK {w : World} {A : Around} {E : Value → Shared → Prop} {s : Shared} {x d l : Addr} {v : Value} {es : Array (Int × Value)} {ep : Nat} {t : SetTable} {S : List Int} {Q : Unit → Shared → Prop}
    (X : (hd.heap_39 w.params).In s.heap) (hx : s.heap.get? x = some (osD (osO d l) es ep t)) (H : SetIs es t S) (hd : s.heap.get? d = some (dictOf [] 0))
    (h : ∀ h', KeepBut x s.heap h' → h'.get? x = some (osD { cls := .ref 232, dict := some d, slots := #[some v] } es ep t) → Q () { s with heap := h', toks := s.toks + 1 }) :
    wpAny (model PySem.Challenge.rw_ae5044_01.row.prog w) A (setAttr (.ref x) "_list" v) Q E s := by
  refine os_set_list X (o := osO d l) (S := S) ⟨⟨es, ep, t, hx, H⟩, rfl, rfl, hd⟩ ?_
  refine h _ (fun b z hb e => (Heap.SameBut.update ..).extBut b z hb e) ?_
  exact Heap.get?_update_self _ hx rfl

theorem interUpd_in (w : World) : InAt w 2 197 interL (fun _ => .none) := by
  intro A s p loose mean mg mb x d l y dy ly R V W g X T kg hr hh gx gl Ox Oy nx nl _ hR
  obtain ⟨es, ep, t, hx, H⟩ := Ox.obj
  obtain ⟨vs, n, hl, hi⟩ := Ox.lst
  have hdx := Ox.dat
  have hn : ∀ p ∈ [(x, osD (osO d l) es ep t), (l, liObj vs n)], s.heap.get? p.1 = some p.2 := by
    intro p hp
    simp only [List.mem_cons, List.not_mem_nil, or_false] at hp
    rcases hp with rfl | rfl
    · exact hx
    · exact hl
  have kh : Stays g (hid s.heap [(x, osD (osO d l) es ep t), (l, liObj vs n)]) := hid_stays kg (by simp [gx, gl])
  have X0 := X.keeps kh
  have T0 := T.keeps kh
  have Oy0 := Ox.apart (ox := osD (osO d l) es ep t) (ol := liObj vs n) Oy nx nl
  have hd0 := Ox.dict_hid (ox := osD (osO d l) es ep t) (ol := liObj vs n)
  have Xs := X.keeps kg
  have Ts := T.keeps kg
  clear X T
  revert X0; k_fill; intro X0
  refine enterCS (news := [(x, osD (osO d l) es ep t), (l, liObj vs n)]) [.ref y] (fun v => [("self", .ref x), ("other", v)]) hn Xs Ts.nolimit (by k_is) (by k_is) (by omega) (by simp) (by rfl) (fun v => by rfl) (by decide +kernel) ?_
  clear Xs Ts
  intro h₁ L D tk cells F N Y hD
  k_cells Y
  simp only [List.cons_append, List.nil_append] at N
  k_steps
  refine star_set (name := "intersection_update") (id := "set.intersection_update") ?_ (by kernel_rfl) (by kernel_rfl)
  k_steps
  refine ⟨rfl, X0.keeps F.keep, ?_⟩
  k_steps
  rename_i oZ dZ h2 F2 N2
  have nZx : L + 1 ≠ x := fun e => by
    have a := N2.get (.head _); have b := N2.get (.tail _ (.tail _ (.head _)))
    rw [e, b] at a; cases a; cases dZ
  have nZl : L + 1 ≠ l := fun e => by
    have a := N2.get (.head _); have b := N2.get (.tail _ (.tail _ (.tail _ (.head _))))
    rw [e, b] at a; cases a; cases dZ
  have nxl : x ≠ l := fun e => by subst e; rw [hx] at hl; cases hl
  have nDx : D ≠ x := (hD _ (.head _)).symm
  have nDl : D ≠ l := (hD _ (.tail _ (.head _))).symm
  refine ⟨set_interUpd (s := ⟨h2, _, _, _, _⟩) (S := V) (T := W) ⟨es, ep, t, N2.get (.tail _ (.tail _ (.head _))), H⟩ (Oy0.stays F2.keep).osat.set (os_cls (X0.keeps F2.keep) rfl) (os_cls (X0.keeps F2.keep) rfl) fun h3 R3 k3 HS3 hR3 => ?_⟩
  obtain ⟨es3, ep3, t3, hg3, H3⟩ := HS3
  obtain ⟨F3, N3⟩ := fn_put (pre := [(L + 1, oZ), (D, tuObj [.ref y])]) (post := [(l, liObj vs n)]) F2 N2 (by simp [nZx, nDx]) (by simp [nxl.symm]) k3 hg3
  simp only [List.cons_append, List.nil_append] at N3
  k_steps
  have Ox3 : OSat h3 x d (osO d l) R3 := ⟨⟨es3, ep3, t3, N3.get (.tail _ (.tail _ (.head _))), H3⟩, rfl, rfl, F3.keep _ _ hd0⟩
  have hl3 := N3.get (.tail _ (.tail _ (.tail _ (.head _))))
  have hlU : V.length ≤ 1000 := by have := Ox.len; omega
  refine comp_filterN (cl := [("self", L + 1)]) (fun i => decide (i ∈ R3)) hh (by rfl) (by decide) rfl (by decide) rfl rfl ?_
  k_steps
  refine ⟨os_list (s := ⟨h3, _, _, _, _⟩) (X0.keeps F3.keep) Ox3 rfl ⟨l, vs, V, n, SrcN.list (items := vs.toArray) ⟨_, hl3, rfl, n, rfl⟩, hl3, hi, hlU, ?_, ?_⟩⟩
  · intro C' i tk' s₃ m₃ E' hi' hC hn' hm k'
    have kk := Stays.trans F3.keep k'
    exact test_in (S := R3) rfl rfl rfl rfl hn' hm ⟨oZ, k' _ _ (N3.get (.head _)), dZ⟩ ⟨es3, ep3, t3, k' _ _ (N3.get (.tail _ (.tail _ (.head _)))), H3⟩ (os_cls (o := osO d l) (X0.keeps kk) rfl) (os_contains (o := osO d l) (X0.keeps kk) rfl) (Ox.small i hi') rfl rfl fun tk4 => ⟨rfl, s₃.heap, tk4, rfl, fun _ _ e => e⟩
  intro D2 h4 tk4 zs k4n hD2 hg4 hzs k4
  obtain ⟨F4, N4, ne4⟩ := news_new F3 N3 k4 hD2 hg4
  dsimp only
  k_steps
  refine ⟨set_listK (s := ⟨h4, _, _, _, _⟩) (X0.keeps F4.keep) (N4.get (.tail _ (.tail _ (.tail _ (.head _))))) H3 (F4.keep _ _ hd0) fun h5 k5 hg5 => ?_⟩
  have hD2x : D2 ≠ x := (ne4 _ (.tail _ (.tail _ (.head _)))).symm
  have hD2l : D2 ≠ l := (ne4 _ (.tail _ (.tail _ (.tail _ (.head _))))).symm
  have hD2s : s.heap.get? D2 = none := by
    cases q : s.heap.get? D2 with
    | none => rfl
    | some o => have a := N4.fresh (.head _); rw [hideAll_get _ q (by simp [hD2x, hD2l])] at a; cases a
  have e : (V.filter fun i => decide (i ∈ R3)) = interL V W := List.filter_congr fun i hi' => by rw [decide_eq_decide, hR3 i]; exact ⟨fun z => z.2, fun z => ⟨hi', z⟩⟩
  rw [e] at hzs
  have kd : d ≠ x := fun e => by subst e; rw [hx] at hdx; cases hdx
  k_steps
  refine hR h5 _ D2 (.inr hD2s) ⟨⟨es3, ep3, t3, hg5, H3.of_mem (Ox.nodup.filter _) fun i => ?_⟩, k5 _ _ kd (F4.keep _ _ hd0), zs, k4n, k5 _ _ hD2x (N4.get (.head _)), hzs⟩ fun b z nb nl' e => k5 _ _ nb (F4.keep b z (hideAll_get _ e (by simp [nb, nl'])))
  rw [hR3 i, List.mem_filter, decide_eq_true_iff]
end Mine

end

section
local macro_rules | `(tactic| walk_at "nowhere") => `(tactic| trivial)
open PySem PySem.W PyProof.Rows PySem.Calls
namespace Mine
local macro_rules | `(tactic| walk_at "getAttr ref") => `(tactic| refine Mine.halt_at ?_)
local macro_rules | `(tactic| walk_at "setAttr ref") => `(tactic| refine Mine.halt_at ?_)
local macro_rules | `(tactic| walk_at "getMethod ref") => `(tactic| refine Mine.halt_at ?_)
local macro_rules | `(tactic| walk_at "call ref") => `(tactic| refine Mine.halt_at ?_)
local macro_rules | `(tactic| walk_at "call builtin:set.difference_update") => `(tactic| refine Mine.halt_at ?_)

theorem diffUpd_in (w : World) : InAt w 2 221 diffL (fun _ => .none) := by
  intro A s p loose mean mg mb x d l y dy ly R V W g X T kg hr hh gx gl Ox Oy nx nl hW hR
  obtain ⟨es, ep, t, hx, H⟩ := Ox.obj
  obtain ⟨vs, n, hl, hi⟩ := Ox.lst
  have hdx := Ox.dat
  have hn : ∀ p ∈ [(x, osD (osO d l) es ep t), (l, liObj vs n)], s.heap.get? p.1 = some p.2 := by
    intro p hp
    simp only [List.mem_cons, List.not_mem_nil, or_false] at hp
    rcases hp with rfl | rfl
    · exact hx
    · exact hl
  have kh : Stays g (hid s.heap [(x, osD (osO d l) es ep t), (l, liObj vs n)]) := hid_stays kg (by simp [gx, gl])
  have X0 := X.keeps kh
  have T0 := T.keeps kh
  have Oy0 := Ox.apart (ox := osD (osO d l) es ep t) (ol := liObj vs n) Oy nx nl
  have hd0 := Ox.dict_hid (ox := osD (osO d l) es ep t) (ol := liObj vs n)
  have Xs := X.keeps kg
  have Ts := T.keeps kg
  clear X T
  revert X0; k_fill; intro X0
  refine enterCS (news := [(x, osD (osO d l) es ep t), (l, liObj vs n)]) [.ref y] (fun v => [("self", .ref x), ("other", v)]) hn Xs Ts.nolimit (by k_is) (by k_is) (by omega) (by simp) (by rfl) (fun v => by rfl) (by decide +kernel) ?_
  clear Xs Ts
  intro h₁ L D tk cells F N Y hD
  k_cells Y
  simp only [List.cons_append, List.nil_append] at N
  k_steps
  refine star_set (name := "difference_update") (id := "set.difference_update") ?_ (by kernel_rfl) (by kernel_rfl)
  k_steps
  refine ⟨rfl, X0.keeps F.keep, ?_⟩
  k_steps
  rename_i oZ dZ h2 F2 N2
  have nZx : L + 1 ≠ x := fun e => by
    have a := N2.get (.head _); have b := N2.get (.tail _ (.tail _ (.head _)))
    rw [e, b] at a; cases a; cases dZ
  have nZl : L + 1 ≠ l := fun e => by
    have a := N2.get (.head _); have b := N2.get (.tail _ (.tail _ (.tail _ (.head _))))
    rw [e, b] at a; cases a; cases dZ
  have nxl : x ≠ l := fun e => by subst e; rw [hx] at hl; cases hl
  have nDx : D ≠ x := (hD _ (.head _)).symm
  have nDl : D ≠ l := (hD _ (.tail _ (.head _))).symm
  refine ⟨set_diffUpd (s := ⟨h2, _, _, _, _⟩) (S := V) (T := W) ⟨es, ep, t, N2.get (.tail _ (.tail _ (.head _))), H⟩ (Oy0.stays F2.keep).osat.set (os_cls (X0.keeps F2.keep) rfl) (os_cls (X0.keeps F2.keep) rfl) nx (by omega) fun h3 R3 k3 HS3 hR3 => ?_⟩
  obtain ⟨es3, ep3, t3, hg3, H3⟩ := HS3
  obtain ⟨F3, N3⟩ := fn_put (pre := [(L + 1, oZ), (D, tuObj [.ref y])]) (post := [(l, liObj vs n)]) F2 N2 (by simp [nZx, nDx]) (by simp [nxl.symm]) (fun b z hb e => k3.extBut b z hb e) hg3
  simp only [List.cons_append, List.nil_append] at N3
  k_steps
  have Ox3 : OSat h3 x d (osO d l) R3 := ⟨⟨es3, ep3, t3, N3.get (.tail _ (.tail _ (.head _))), H3⟩, rfl, rfl, F3.keep _ _ hd0⟩
  have hl3 := N3.get (.tail _ (.tail _ (.tail _ (.head _))))
  have hlU : V.length ≤ 1000 := by have := Ox.len; omega
  refine comp_filterN (cl := [("self", L + 1)]) (fun i => decide (i ∈ R3)) hh (by rfl) (by decide) rfl (by decide) rfl rfl ?_
  k_steps
  refine ⟨os_list (s := ⟨h3, _, _, _, _⟩) (X0.keeps F3.keep) Ox3 rfl ⟨l, vs, V, n, SrcN.list (items := vs.toArray) ⟨_, hl3, rfl, n, rfl⟩, hl3, hi, hlU, ?_, ?_⟩⟩
  · intro C' i tk' s₃ m₃ E' hi' hC hn' hm k'
    have kk := Stays.trans F3.keep k'
    exact test_in (S := R3) rfl rfl rfl rfl hn' hm ⟨oZ, k' _ _ (N3.get (.head _)), dZ⟩ ⟨es3, ep3, t3, k' _ _ (N3.get (.tail _ (.tail _ (.head _)))), H3⟩ (os_cls (o := osO d l) (X0.keeps kk) rfl) (os_contains (o := osO d l) (X0.keeps kk) rfl) (Ox.small i hi') rfl rfl fun tk4 => ⟨rfl, s₃.heap, tk4, rfl, fun _ _ e => e⟩
  intro D2 h4 tk4 zs k4n hD2 hg4 hzs k4
  obtain ⟨F4, N4, ne4⟩ := news_new F3 N3 k4 hD2 hg4
  dsimp only
  k_steps
  refine ⟨set_listK (s := ⟨h4, _, _, _, _⟩) (X0.keeps F4.keep) (N4.get (.tail _ (.tail _ (.tail _ (.head _))))) H3 (F4.keep _ _ hd0) fun h5 k5 hg5 => ?_⟩
  have hD2x : D2 ≠ x := (ne4 _ (.tail _ (.tail _ (.head _)))).symm
  have hD2l : D2 ≠ l := (ne4 _ (.tail _ (.tail _ (.tail _ (.head _))))).symm
  have hD2s : s.heap.get? D2 = none := by
    cases q : s.heap.get? D2 with
    | none => rfl
    | some o => have a := N4.fresh (.head _); rw [hideAll_get _ q (by simp [hD2x, hD2l])] at a; cases a
  have e : (V.filter fun i => decide (i ∈ R3)) = diffL V W := List.filter_congr fun i hi' => by rw [decide_eq_decide, hR3 i]; exact ⟨fun z => z.2, fun z => ⟨hi', z⟩⟩
  rw [e] at hzs
  have kd : d ≠ x := fun e => by subst e; rw [hx] at hdx; cases hdx
  k_steps
  refine hR h5 _ D2 (.inr hD2s) ⟨⟨es3, ep3, t3, hg5, H3.of_mem (Ox.nodup.filter _) fun i => ?_⟩, k5 _ _ kd (F4.keep _ _ hd0), zs, k4n, k5 _ _ hD2x (N4.get (.head _)), hzs⟩ fun b z nb nl' e => k5 _ _ nb (F4.keep b z (hideAll_get _ e (by simp [nb, nl'])))
  rw [hR3 i, List.mem_filter, decide_eq_true_iff]
end Mine

end

section
open PySem PySem.W PyProof.Rows PySem.Calls
open PySem.Builtin.Frozenset PySem.Builtin PySem.Builtin.ObjectAttr PySem.Builtin.Getset_descriptor
namespace Mine
section
variable {w : World} {A : Around} {E : Value → Shared → Prop} {s : Shared} {a d : Addr} {o : Obj} {S : List Int} {name : Str}

theorem os_getBy {g v : Value} {t : Tok} {fill : Bool} {Q : Value → Shared → Prop} (X : (hd.heap_39 w.params).In s.heap) (O : OSat s.heap a d o S)
    (hf : findObj (hd.heap_39 w.params) 232 (some (dictOf [] 0)) name = some (.bind g v))
    (h : wpAny (model PySem.Challenge.rw_ae5044_01.row.prog w) A.in1 (call g [v, .ref a, .ref 232]) (fun v s' => wpAny (model PySem.Challenge.rw_ae5044_01.row.prog w) A (handedOut v) Q E s') (fun _ _ => False) s) :
    wpAny (model PySem.Challenge.rw_ae5044_01.row.prog w) A (getAttrBy (.ref a) (.str name t) fill) Q E s := by
  obtain ⟨ox, I, _⟩ := O.inst
  have C : Looks (model PySem.Challenge.rw_ae5044_01.row.prog w) s.heap (isInstance (.ref a) (.type "set")) true := I.type.andThen (looks_mroIn X (by kernel_rfl))
  have L1 := looks_find (M := model PySem.Challenge.rw_ae5044_01.row.prog w) X I hf
  unfold getAttrBy
  refine wpAny_holding (wpAny_bind (I.type _ _ _ _ (fun _ _ e => e) (wpAny_bind (looks_findIn X (os_ga _) _ _ _ _ (fun _ _ e => e) ?_))))
  show wpAny _ _ (getAttrByItsOwn (.ref a) (.str name t) (.ref 232) (.builtin "set.__getattribute__") fill false) _ _ _
  unfold getAttrByItsOwn hookBefore callGetattribute boundAndCalled
  refine wpAny_bind (m := if onTheHeap (.ref 232) = true then _ else _) ?_
  show wpAny _ _ (typeLookup (.ref 232) "__getattr__") _ _ _
  refine looks_findIn X (os_g _) _ _ _ _ (fun _ _ e => e) ?_
  refine wpAny_bind (wpAny_attempt (wpAny_holding ?_))
  simp only [Bool.false_and, Bool.false_eq_true, if_false]
  rw [PySem.F.slot_set_getattribute.bind]
  refine wpAny_bind (wpAny_pure ?_)
  refine call_sm (s := s) (n := "__getattribute__") (.inr (by kernel_rfl)) (by kernel_rfl) PySem.F.slot_set_getattribute.plain entry_set_ga C (PySem.F.args_set_getattribute_2 _ _) ?_
  unfold Builtin.«object.__getattribute__» slotArgs
  refine wpAny_bind (m := pure (Value.ref a, [Value.str name t])) (wpAny_pure ?_)
  dsimp only
  refine wpAny_bind (m := pure name) (wpAny_pure ?_)
  refine wpAny_bind (I.type _ _ _ _ (fun _ _ e => e) ?_)
  refine wpAny_bind (L1 _ _ _ _ (fun _ _ e => e) ?_)
  dsimp only
  unfold bindTo
  dsimp only
  refine wpAny_bind (wpAny_holding (wpAny_mono h (fun v s' z => ?_) fun _ _ z => z.elim))
  exact wpAny_pure ⟨_, rfl, z⟩

theorem findObj_b {K : Frag} {C : Addr} {v : Value} {name : Str} {od : Obj} {g : Value} (hh : (clsIn K C).any (fun c => !c.hasDict) = true) (ha : findIn K (.ref C) name = some (some v)) (hg : specialIn K v "__get__" = some (some g)) (ht : takesIn K v = some false) (hc : copiedNames.contains name = false) :
    findObj K C (some od) name = some (.bind g v) := by
  obtain ⟨cd, hc', hd⟩ := any_some hh
  unfold findObj
  have ho : PySem.W.ownOf cd (some od) name = some none := by
    unfold PySem.W.ownOf
    rw [if_neg]
    simpa using hd
  rw [hc', Option.bind_some, ha, Option.bind_some]
  simp only [hg, ht, Option.bind_some, ho, hc, Bool.false_and, Bool.false_eq_true, if_false]

theorem slot_wd_get : Slot "wrapper_descriptor" "__get__" "wrapper_descriptor.__get__" :=
  .of (owner := "wrapper_descriptor") (n := "__get__") (by rw [typeLookup_type, builtinLookup_eq_fast]; kernel_rfl) (by decide +kernel) (by decide +kernel) (by decide +kernel)
    (by first | exact .inl (by decide +kernel) | exact .inr (by decide +kernel)) (by rw [isSubtype_type]; kernel_rfl)
theorem entry_wd_get : entryFor table "wrapper_descriptor.__get__" = some Builtin.«wrapper_descriptor.__get__» := entryFor_of_tree (by kernel_rfl)
theorem args_wd_get (a b c : Value) : argsOk "wrapper_descriptor.__get__" ⟨[a, b, c], []⟩ := by unfold argsOk; kernel_rfl
theorem typeOf_set_len : typeOf (.builtin "set.__len__") = pure (.type "wrapper_descriptor") := by kernel_rfl

theorem wd_len {R : Result → Shared → Prop} (C : Looks (model PySem.Challenge.rw_ae5044_01.row.prog w) s.heap (isInstance (.ref a) (.type "set")) true)
    (h : R (.ok (.ret (.ref s.heap.objs.size))) { s with heap := s.heap.push { cls := .type "method-wrapper", data := .fields #[.builtin "set.__len__", .ref a] } }) :
    codeAny (model PySem.Challenge.rw_ae5044_01.row.prog w) A (.call (.builtin "wrapper_descriptor.__get__") ⟨[.builtin "set.__len__", .ref a, .ref 232], []⟩) R s := by
  obtain ⟨hh, g, dr, t, os⟩ := s
  refine codeAny_call_builtin slot_wd_get.plain entry_wd_get (slot_wd_get.check _ _ _ _ _ _ _ _ typeOf_set_len (args_wd_get _ _ _) ?_)
  unfold Builtin.«wrapper_descriptor.__get__»
  refine wpAny_bind (wpAny_of_eq (a := (Value.builtin "set.__len__", some (Value.ref a), some (Value.ref 232))) (by kernel_rfl) ?_)
  dsimp only
  k_delta "bindBuiltin"
  dsimp only
  k_delta "checkInstance"
  refine wpAny_bind (wpAny_bind (wpAny_of_eq (a := (("__len__" : Str), Value.type "set")) (by kernel_rfl) ?_))
  dsimp only
  refine wpAny_bind (C.at ?_)
  simp only [Bool.not_true, Bool.false_eq_true, if_false]
  refine wpAny_pure ?_
  repeat lk
  exact h

theorem kind_ha : builtinKind "hasattr" = none := by kernel_rfl
theorem plain_ha : plainId "hasattr" = true := by decide +kernel
theorem entry_ha : entryFor table "hasattr" = some Builtin.«hasattr» := entryFor_of_tree (by kernel_rfl)
theorem args_ha (a : Value) (x : Str) (t : Tok) : argsOk "hasattr" ⟨[a, .str x t], []⟩ := by unfold argsOk; kernel_rfl

theorem os_hasLen {t : Tok} {Q : Value → Shared → Prop} (X : (hd.heap_39 w.params).In s.heap) (O : OSat s.heap a d o S)
    (h : ∀ h', Stays s.heap h' → Q (.bool true) { s with heap := h' }) : wpAny (model PySem.Challenge.rw_ae5044_01.row.prog w) A (call (.builtin "hasattr") [.ref a, .str "__len__" t]) Q E s := by
  refine Calls.call_function_entry kind_ha plain_ha entry_ha (args_ha _ _ _) ?_
  unfold Builtin.«hasattr»
  refine wpAny_bind (m := PySem.someArgs "hasattr" 2 2 _) (wpAny_of_eq (a := [Value.ref a, .str "__len__" t]) (by kernel_rfl) ?_)
  dsimp only
  k_delta "attrName"
  refine wpAny_bind (wpAny_of_eq (a := ()) (by rfl) ?_)
  rw [if_neg (fun e => by have := eq_of_beq e; cases this)]
  have O' := O
  obtain ⟨ox, I, _⟩ := O.inst
  have LM : Looks (model PySem.Challenge.rw_ae5044_01.row.prog w) s.heap (isInstance (.ref a) (.type "module")) false := I.type.andThen (looks_mroIn X (by kernel_rfl))
  refine wpAny_bind (I.type _ _ _ _ (fun _ _ e => e) ?_)
  dsimp only
  k_delta "optionalOnAModule"
  dsimp only
  refine wpAny_bind (wpAny_bind (wpAny_of_eq (a := some ("__len__" : Str)) (by rfl) ?_))
  dsimp only
  refine wpAny_bind (LM _ _ _ _ (fun _ _ e => e) ?_)
  simp only [Bool.not_false, if_true]
  refine wpAny_pure ?_
  rw [if_neg (by decide)]
  unfold getAttrBy?
  have C : Looks (model PySem.Challenge.rw_ae5044_01.row.prog w) s.heap (isInstance (.ref a) (.type "set")) true := I.type.andThen (looks_mroIn X (by kernel_rfl))
  refine wpAny_bind (wpAny_bind (wpAny_attempt (os_getBy X O' (g := .builtin "wrapper_descriptor.__get__") (v := .builtin "set.__len__") ?_ (wpAny_call (wd_len C ?_)))))
  · exact findObj_b (by kernel_rfl) (by kernel_rfl) (by kernel_rfl) (by kernel_rfl) (by decide +kernel)
  · refine handed_on rfl ?_
    refine wpAny_pure ?_
    simp only [Option.isNone_some, Bool.false_and, Bool.false_eq_true, if_false]
    exact wpAny_pure ⟨_, rfl, h _ (Stays.push _)⟩
end
end Mine

end

section
open PySem PySem.W PyProof.Rows PySem.Calls
namespace Mine
theorem iadd_lists {prog : Program} {w : World} {A : Around} {E : Value → Shared → Prop} {s : Shared} {l b : Addr} {vs us : List Value} {n m : Nat} {Q : Value → Shared → Prop}
    (hl : s.heap.get? l = some (liObj vs n)) (hb : s.heap.get? b = some (liObj us m)) (hz : vs.length + us.length ≤ 1000)
    (h : ∀ h' k, KeepBut l s.heap h' → h'.get? l = some (liObj (vs ++ us) k) → Q (.ref l) { s with heap := h' }) :
    wpAny (model prog w) A (inplaceOp .Add (.ref l) (.ref b)) Q E s := by
  have ha : s.TypeIs (.ref l) "list" := ⟨_, hl, rfl⟩
  have hb' : s.TypeIs (.ref b) "list" := ⟨_, hb, rfl⟩
  have hseq : isSeqSlot (some (.builtin "list.__iadd__")) = true := by decide +kernel
  unfold inplaceOp
  refine wpAny_holding ?_
  have hfi : fillsInplaceSlot (.type "list") "add" (Operator.Add == .Add) = pure false := by
    unfold fillsInplaceSlot
    show (typeLookup (.type "list") (dunderI "add") >>= fun fi => pure (fi.isSome && !isSeqSlot fi)) = pure false
    rw [F.slot_list_iadd.lookup]
    show (pure (true && !isSeqSlot (some (.builtin "list.__iadd__"))) : Sem Bool) = _
    rw [hseq]; rfl
  refine wpAny_bind (wpAny_typeOf ha (wpAny_bind (wpAny_of_eq hfi ?_)))
  show wpAny _ A (if false = true then _ else _) Q E s
  rw [if_neg Bool.false_ne_true]
  refine wpAny_bind (wpAny_binaryOp1_none (nm := "add") ha hb' noFill_list_add ?_)
  refine wpAny_bind (wpAny_of_eq (PySem.seqSlot_of F.slot_list_iadd.lookup hseq) ?_)
  have e1 : vs.toArray.size = vs.length := by simp
  have e2 : us.toArray.size = us.length := by simp
  refine wpAny_bind (wpAny_rule (call_meets F.slot_list_iadd ha F.entry_list_iadd (F.args_list_iadd_2 _ _) (AutoSeq1.list___iadd___list_list_0 l vs.toArray n b us.toArray m ?_ ?_ ?_) ⟨hl, hb, ?_⟩))
  · rw [e1, e2]
    intro e
    simp only [Bool.and_eq_true] at e
    have := e.2
    unfold Builtin.List.listTooLong at this
    simp at this
    rw [sizeLine_eq] at this
    omega
  · rw [e1, sizeLine_eq]; omega
  · rw [e1, e2, sizeLine_eq]; omega
  · refine h _ (if (vs.toArray ++ us.toArray).size == vs.toArray.size then n else n + 1) (fun c z hc e => (Heap.SameBut.update ..).extBut c z hc e) ?_
    have := IsL.update (h := s.heap) (l := l) (items := vs.toArray) (n := n) hl (fun x => x ++ us.toArray)
    rw [this]
    simp
end Mine

end

section
open PySem PySem.W PyProof.Rows PySem.Calls
namespace Mine
local macro_rules | `(tactic| walk_at "getAttr ref") => `(tactic| refine Mine.halt_at ?_)
local macro_rules | `(tactic| walk_at "setAttr ref") => `(tactic| refine Mine.halt_at ?_)
local macro_rules | `(tactic| walk_at "getMethod ref") => `(tactic| refine Mine.halt_at ?_)
local macro_rules | `(tactic| walk_at "getMethod type:set") => `(tactic| refine Mine.halt_at ?_)
local macro_rules | `(tactic| walk_at "call ref") => `(tactic| refine Mine.halt_at ?_)
local macro_rules | `(tactic| walk_at "call builtin:hasattr") => `(tactic| refine Mine.halt_at ?_)
local macro_rules | `(tactic| walk_at "call builtin:set.symmetric_difference_update") => `(tactic| refine Mine.halt_at ?_)

abbrev symL (V W : List Int) : List Int := diffL V W ++ diffL W V

theorem symUpd_in (w : World) : InAt w 2 209 symL (fun _ => .none) := by
  intro A s p loose mean mg mb x d l y dy ly R V W g X T kg hr hh gx gl Ox Oy nx nl hW hR
  obtain ⟨es, ep, t, hx, H⟩ := Ox.obj
  obtain ⟨vs, n, hl, hi⟩ := Ox.lst
  have hdx := Ox.dat
  have hn : ∀ p ∈ [(x, osD (osO d l) es ep t), (l, liObj vs n)], s.heap.get? p.1 = some p.2 := by
    intro p hp
    simp only [List.mem_cons, List.not_mem_nil, or_false] at hp
    rcases hp with rfl | rfl
    · exact hx
    · exact hl
  have kh : Stays g (hid s.heap [(x, osD (osO d l) es ep t), (l, liObj vs n)]) := hid_stays kg (by simp [gx, gl])
  have X0 := X.keeps kh
  have T0 := T.keeps kh
  have Oy0 := Ox.apart (ox := osD (osO d l) es ep t) (ol := liObj vs n) Oy nx nl
  have hd0 := Ox.dict_hid (ox := osD (osO d l) es ep t) (ol := liObj vs n)
  have Xs := X.keeps kg
  have Ts := T.keeps kg
  clear X T
  revert X0; k_fill; intro X0
  refine enterC (news := [(x, osD (osO d l) es ep t), (l, liObj vs n)]) [("self", .ref x), ("other", .ref y)] hn Xs Ts.nolimit (by k_is) (by k_is) (by omega) (BindsTo.of_eq rfl) (by rfl) (by decide +kernel) ?_
  clear Xs Ts
  intro h₁ L tk cells F N Y
  k_cells Y
  simp only [List.cons_append, List.nil_append] at N
  k_steps
  rename_i oZ dZ
  have nZx : L + 1 ≠ x := fun e => by
    have a := N.get (.head _); have b := N.get (.tail _ (.head _))
    rw [e, b] at a; cases a; cases dZ
  have nZl : L + 1 ≠ l := fun e => by
    have a := N.get (.head _); have b := N.get (.tail _ (.tail _ (.head _)))
    rw [e, b] at a; cases a; cases dZ
  have nxl : x ≠ l := fun e => by subst e; rw [hx] at hl; cases hl
  refine ⟨os_hasLen (s := ⟨h₁, _, _, _, _⟩) (X0.keeps F.keep) (Oy0.stays F.keep).osat fun h2 k2 => ?_⟩
  have F2 := F.keeps k2
  have N2 := N.grown k2
  clear F N
  k_steps
  rename_i h3 F3 N3
  refine ⟨get_setm F3 X0 (id := "set.symmetric_difference_update") (by kernel_rfl) (by kernel_rfl) ?_⟩
  k_steps
  refine ⟨set_symUpd (s := ⟨h3, _, _, _, _⟩) (S := V) (T := W) ⟨es, ep, t, N3.get (.tail _ (.head _)), H⟩ (Oy0.stays F3.keep).osat.set (os_cls (X0.keeps F3.keep) rfl) (os_cls (X0.keeps F3.keep) rfl) rfl nx fun h4 R4 k4 HS4 hR4 => ?_⟩
  obtain ⟨es4, ep4, t4, hg4, H4⟩ := HS4
  obtain ⟨F4, N4⟩ := fn_put (pre := [(L + 1, oZ)]) (post := [(l, liObj vs n)]) F3 N3 (by simp [nZx]) (by simp [nxl.symm]) (fun b z hb e => k4.extBut b z hb e) hg4
  simp only [List.cons_append, List.nil_append] at N4
  k_steps
  have Ox4 : OSat h4 x d (osO d l) R4 := ⟨⟨es4, ep4, t4, N4.get (.tail _ (.head _)), H4⟩, rfl, rfl, F4.keep _ _ hd0⟩
  have hl4 := N4.get (.tail _ (.tail _ (.head _)))
  have hlU : V.length ≤ 1000 := by have := Ox.len; omega
  have hlW : W.length ≤ 1000 := by have := Oy.len; omega
  have kd : d ≠ x := fun e => by subst e; rw [hx] at hdx; cases hdx
  refine comp_filterN (cl := [("self", L + 1)]) (fun i => decide (i ∈ R4)) hh (by rfl) (by decide) rfl (by decide) rfl rfl ?_
  k_steps
  refine ⟨os_list (s := ⟨h4, _, _, _, _⟩) (X0.keeps F4.keep) Ox4 rfl ⟨l, vs, V, n, SrcN.list (items := vs.toArray) ⟨_, hl4, rfl, n, rfl⟩, hl4, hi, hlU, ?_, ?_⟩⟩
  · intro C' i tk' s₃ m₃ E' hi' hC hn' hm k'
    have kk := Stays.trans F4.keep k'
    exact test_in (S := R4) rfl rfl rfl rfl hn' hm ⟨oZ, k' _ _ (N4.get (.head _)), dZ⟩ ⟨es4, ep4, t4, k' _ _ (N4.get (.tail _ (.head _))), H4⟩ (os_cls (o := osO d l) (X0.keeps kk) rfl) (os_contains (o := osO d l) (X0.keeps kk) rfl) (Ox.small i hi') rfl rfl fun tk4 => ⟨rfl, s₃.heap, tk4, rfl, fun _ _ e => e⟩
  intro D2 h5 tk5 zs k5n hD2 hg5 hzs k5
  obtain ⟨F5, N5, ne5⟩ := news_new F4 N4 k5 hD2 hg5
  dsimp only
  k_steps
  have hD2Z : D2 ≠ L + 1 := (ne5 _ (.head _)).symm
  have hD2x : D2 ≠ x := (ne5 _ (.tail _ (.head _))).symm
  have hD2l : D2 ≠ l := (ne5 _ (.tail _ (.tail _ (.head _)))).symm
  refine ⟨set_listK (s := ⟨h5, _, _, _, _⟩) (X0.keeps F5.keep) (N5.get (.tail _ (.tail _ (.head _)))) H4 (F5.keep _ _ hd0) fun h6 k6 hg6 => ?_⟩
  obtain ⟨F6, N6⟩ := fn_put (pre := [(D2, liObj zs k5n), (L + 1, oZ)]) (post := [(l, liObj vs n)]) F5 N5 (by simp [nZx, hD2x]) (by simp [nxl.symm]) k6 hg6
  simp only [List.cons_append, List.nil_append] at N6
  clear k6
  k_steps
  refine ⟨os_list (s := ⟨h6, _, _, _, _⟩) (X0.keeps F6.keep) (o := osO d D2) (S := R4) ⟨⟨es4, ep4, t4, N6.get (.tail _ (.tail _ (.head _))), H4⟩, rfl, rfl, F6.keep _ _ hd0⟩ rfl ?_⟩
  obtain ⟨us, m, hly, hu⟩ := Oy0.lst
  refine comp_filter (cl := [("self", L + 1)]) (fun i => decide (i ∈ R4)) hh (by show A.depth + 1 < _; omega) (by rfl) (by decide) rfl (by decide) rfl rfl ?_
  k_steps
  refine ⟨_, L, _, ly, us, W, m, Oy0.src X0 T0, F6, F6.keep _ _ hly, hu, hlW, ?_, ?_⟩
  · intro C' i tk' s₃ m₃ E' hi' hC hn' hm k'
    have kk := Stays.trans F6.keep k'
    exact test_in (S := R4) rfl rfl rfl rfl hn' hm ⟨oZ, k' _ _ (N6.get (.tail _ (.head _))), dZ⟩ ⟨es4, ep4, t4, k' _ _ (N6.get (.tail _ (.tail _ (.head _)))), H4⟩ (os_cls (o := osO d D2) (X0.keeps kk) rfl) (os_contains (o := osO d D2) (X0.keeps kk) rfl) (Oy.small i hi') rfl rfl fun tk4 => ⟨rfl, s₃.heap, tk4, rfl, fun _ _ e => e⟩
  intro D3 h7 tk7 ws k7n hD3 hg7 hws k7
  obtain ⟨F7, N7, ne7⟩ := news_new F6 N6 k7 hD3 hg7
  dsimp only
  k_steps
  have z1 : zs.length ≤ V.length := by rw [hzs.length]; exact List.length_filter_le _ _
  have z2 : ws.length ≤ W.length := by rw [hws.length]; exact List.length_filter_le _ _
  have z3 := Ox.len
  have hDD : D3 ≠ D2 := (ne7 _ (.head _)).symm
  have hD3x : D3 ≠ x := (ne7 _ (.tail _ (.tail _ (.head _)))).symm
  refine iadd_lists (s := ⟨h7, _, _, _, _⟩) (N7.get (.tail _ (.head _))) (N7.get (.head _)) (by omega) fun h8 k8n k8 hg8 => ?_
  obtain ⟨F8, N8⟩ := fn_put (pre := [(D3, liObj ws k7n)]) (post := [(L + 1, oZ), (x, osD (osO d D2) es4 ep4 t4), (l, liObj vs n)]) F7 N7 (by simp [hDD]) (by simp [hD2Z.symm, hD2x.symm, hD2l.symm]) k8 hg8
  simp only [List.cons_append, List.nil_append] at N8
  dsimp only
  k_steps
  refine ⟨set_listK (s := ⟨h8, _, _, _, _⟩) (X0.keeps F8.keep) (N8.get (.tail _ (.tail _ (.tail _ (.head _))))) H4 (F8.keep _ _ hd0) fun h9 k9 hg9 => ?_⟩
  k_steps
  have hD2s : s.heap.get? D2 = none := by
    cases q : s.heap.get? D2 with
    | none => rfl
    | some o => have a := N8.fresh (.tail _ (.head _)); rw [hideAll_get _ q (by simp [hD2x, hD2l])] at a; cases a
  have e1 : (V.filter fun i => decide (i ∈ R4)) = diffL V W := List.filter_congr fun i hi' => by rw [decide_eq_decide, hR4 i]; exact ⟨fun z => z.elim (fun z => z.2) (fun z => absurd hi' z.1), fun z => .inl ⟨hi', z⟩⟩
  have e2 : (W.filter fun i => decide (i ∈ R4)) = diffL W V := List.filter_congr fun i hi' => by rw [decide_eq_decide, hR4 i]; exact ⟨fun z => z.elim (fun z => absurd hi' z.2) (fun z => z.1), fun z => .inr ⟨z, hi'⟩⟩
  rw [e1] at hzs
  rw [e2] at hws
  have hnd : (symL V W).Nodup := by
    refine List.nodup_append.mpr ⟨Ox.nodup.filter _, Oy.nodup.filter _, fun a ha b hb e => ?_⟩
    subst e
    have a1 := (List.mem_filter.mp ha).1
    have a2 := (List.mem_filter.mp hb).2
    simp only [decide_eq_true_iff] at a2
    exact a2 a1
  refine hR h9 _ D2 (.inr hD2s) ⟨⟨es4, ep4, t4, hg9, H4.of_mem hnd fun i => ?_⟩, k9 _ _ kd (F8.keep _ _ hd0), _, k8n, k9 _ _ hD2x (N8.get (.tail _ (.head _))), PyProof.Rows.IntsAre.append hzs hws⟩ fun b z nb nl' e => k9 _ _ nb (F8.keep b z (hideAll_get _ e (by simp [nb, nl'])))
  rw [hR4 i, List.mem_append, List.mem_filter, List.mem_filter, decide_eq_true_iff, decide_eq_true_iff]
  exact ⟨fun z => z.elim .inl fun z => .inr ⟨z.2, z.1⟩, fun z => z.elim .inl fun z => .inr ⟨z.2, z.1⟩⟩
end Mine

end

section
open PySem PySem.W PyProof.Rows PySem.Calls
namespace Mine
local macro_rules | `(tactic| walk_at "getAttr ref") => `(tactic| refine Mine.halt_at ?_)
local macro_rules | `(tactic| walk_at "getMethod ref") => `(tactic| refine Mine.halt_at ?_)
local macro_rules | `(tactic| walk_at "call ref") => `(tactic| refine Mine.halt_at ?_)

theorem fr_two {h₀ : Heap} {L x l : Addr} {m : Str → Option Value} {news : List (Addr × Obj)} {ox ol : Obj} {h h' : Heap} (F : Fr h₀ L h m) (N : News h₀ L h news) (hx : (x, ox) ∈ news) (hl : (l, ol) ∈ news)
    (k : ∀ b z, b ≠ x → b ≠ l → h.get? b = some z → h'.get? b = some z) : Fr h₀ L h' m := by
  have Dx := N _ hx
  have Dl := N _ hl
  obtain ⟨oL, es, ep, hL, r⟩ := F.ns
  refine ⟨⟨oL, es, ep, k _ _ (Ne.symm Dx.2.1) (Ne.symm Dl.2.1) hL, r⟩, fun b z q => k b z (fun e => ?_) (fun e => ?_) (F.keep b z q), F.above⟩
  · have := Dx.2.2; rw [← e, q] at this; cases this
  · have := Dl.2.2; rw [← e, q] at this; cases this

theorem iand_in (w : World) : InAt w 4 204 interL (fun x => .ref x) := by
  intro A s p loose mean mg mb x d l y dy ly R V W g X T kg hr hh gx gl Ox Oy nx nl hW hR
  obtain ⟨es, ep, t, hx, H⟩ := Ox.obj
  obtain ⟨vs, n, hl, hi⟩ := Ox.lst
  have hdx := Ox.dat
  have hn : ∀ p ∈ [(x, osD (osO d l) es ep t), (l, liObj vs n)], s.heap.get? p.1 = some p.2 := by
    intro p hp
    simp only [List.mem_cons, List.not_mem_nil, or_false] at hp
    rcases hp with rfl | rfl
    · exact hx
    · exact hl
  have kh : Stays g (hid s.heap [(x, osD (osO d l) es ep t), (l, liObj vs n)]) := hid_stays kg (by simp [gx, gl])
  have X0 := X.keeps kh
  have T0 := T.keeps kh
  have Oy0 := Ox.apart (ox := osD (osO d l) es ep t) (ol := liObj vs n) Oy nx nl
  have hd0 := Ox.dict_hid (ox := osD (osO d l) es ep t) (ol := liObj vs n)
  have Xs := X.keeps kg
  have Ts := T.keeps kg
  clear X T
  revert X0; k_fill; intro X0
  refine enterN [("self", .ref x), ("other", .ref y)] hn Xs Ts.nolimit (by k_is) (by k_is) (by omega) (BindsTo.of_eq rfl) (locs rfl) ?_
  clear Xs Ts
  intro h₁ L F N
  k_steps
  refine ⟨os_method (s := ⟨h₁, _, _, _, _⟩) (X0.keeps F.keep) (S := V) ⟨⟨es, ep, t, N.get (.head _), H⟩, rfl, rfl, F.keep _ _ hd0⟩ (f := 197) (by kernel_rfl) (by kernel_rfl) ?_⟩
  k_steps
  have Ox1 : OSx h₁ x d l V := ⟨⟨es, ep, t, N.get (.head _), H⟩, F.keep _ _ hd0, vs, n, N.get (.tail _ (.head _)), hi⟩
  refine ⟨wpAny_call (interUpd_in w _ ⟨h₁, _, _, _, _⟩ _ _ _ _ _ _ _ _ _ _ _ _ _ _ _ X0 T0 F.keep (by show A.depth + 1 + 2 < _; omega) hh (N.fresh (.head _)) (N.fresh (.tail _ (.head _))) Ox1 (Oy0.stays F.keep) nx nl hW fun h7 tk7 l7 hl7 O7 k7 => ?_)⟩
  have F7 := fr_two F N (.head _) (.tail _ (.head _)) k7
  have N7 : News (hid s.heap [(x, osD (osO d l) es ep t), (l, liObj vs n)]) L h7 [] := News.nil
  have hx1 := N.get (.head _)
  have kF := F.keep
  clear F N
  dsimp only
  k_steps
  refine hR h7 _ l7 ?_ O7 fun b z nb nl e => F7.keep b z (hideAll_get _ e (by simp [nb, nl]))
  by_cases e1 : l7 = l
  · exact .inl e1
  refine .inr ?_
  cases q : s.heap.get? l7 with
  | none => rfl
  | some o =>
    have z := hl7.resolve_left e1
    dsimp only at z
    by_cases e2 : l7 = x
    · subst e2; rw [hx1] at z; cases z
    · rw [kF _ _ (hideAll_get _ q (by simp [e1, e2]))] at z; cases z

theorem isub_in (w : World) : InAt w 4 228 diffL (fun x => .ref x) := by
  intro A s p loose mean mg mb x d l y dy ly R V W g X T kg hr hh gx gl Ox Oy nx nl hW hR
  obtain ⟨es, ep, t, hx, H⟩ := Ox.obj
  obtain ⟨vs, n, hl, hi⟩ := Ox.lst
  have hdx := Ox.dat
  have hn : ∀ p ∈ [(x, osD (osO d l) es ep t), (l, liObj vs n)], s.heap.get? p.1 = some p.2 := by
    intro p hp
    simp only [List.mem_cons, List.not_mem_nil, or_false] at hp
    rcases hp with rfl | rfl
    · exact hx
    · exact hl
  have kh : Stays g (hid s.heap [(x, osD (osO d l) es ep t), (l, liObj vs n)]) := hid_stays kg (by simp [gx, gl])
  have X0 := X.keeps kh
  have T0 := T.keeps kh
  have Oy0 := Ox.apart (ox := osD (osO d l) es ep t) (ol := liObj vs n) Oy nx nl
  have hd0 := Ox.dict_hid (ox := osD (osO d l) es ep t) (ol := liObj vs n)
  have Xs := X.keeps kg
  have Ts := T.keeps kg
  clear X T
  revert X0; k_fill; intro X0
  refine enterN [("self", .ref x), ("other", .ref y)] hn Xs Ts.nolimit (by k_is) (by k_is) (by omega) (BindsTo.of_eq rfl) (locs rfl) ?_
  clear Xs Ts
  intro h₁ L F N
  k_steps
  refine ⟨os_method (s := ⟨h₁, _, _, _, _⟩) (X0.keeps F.keep) (S := V) ⟨⟨es, ep, t, N.get (.head _), H⟩, rfl, rfl, F.keep _ _ hd0⟩ (f := 221) (by kernel_rfl) (by kernel_rfl) ?_⟩
  k_steps
  have Ox1 : OSx h₁ x d l V := ⟨⟨es, ep, t, N.get (.head _), H⟩, F.keep _ _ hd0, vs, n, N.get (.tail _ (.head _)), hi⟩
  refine ⟨wpAny_call (diffUpd_in w _ ⟨h₁, _, _, _, _⟩ _ _ _ _ _ _ _ _ _ _ _ _ _ _ _ X0 T0 F.keep (by show A.depth + 1 + 2 < _; omega) hh (N.fresh (.head _)) (N.fresh (.tail _ (.head _))) Ox1 (Oy0.stays F.keep) nx nl hW fun h7 tk7 l7 hl7 O7 k7 => ?_)⟩
  have F7 := fr_two F N (.head _) (.tail _ (.head _)) k7
  have N7 : News (hid s.heap [(x, osD (osO d l) es ep t), (l, liObj vs n)]) L h7 [] := News.nil
  have hx1 := N.get (.head _)
  have kF := F.keep
  clear F N
  dsimp only
  k_steps
  refine hR h7 _ l7 ?_ O7 fun b z nb nl e => F7.keep b z (hideAll_get _ e (by simp [nb, nl]))
  by_cases e1 : l7 = l
  · exact .inl e1
  refine .inr ?_
  cases q : s.heap.get? l7 with
  | none => rfl
  | some o =>
    have z := hl7.resolve_left e1
    dsimp only at z
    by_cases e2 : l7 = x
    · subst e2; rw [hx1] at z; cases z
    · rw [kF _ _ (hideAll_get _ q (by simp [e1, e2]))] at z; cases z

theorem ixor_in (w : World) : InAt w 4 216 symL (fun x => .ref x) := by
  intro A s p loose mean mg mb x d l y dy ly R V W g X T kg hr hh gx gl Ox Oy nx nl hW hR
  obtain ⟨es, ep, t, hx, H⟩ := Ox.obj
  obtain ⟨vs, n, hl, hi⟩ := Ox.lst
  have hdx := Ox.dat
  have hn : ∀ p ∈ [(x, osD (osO d l) es ep t), (l, liObj vs n)], s.heap.get? p.1 = some p.2 := by
    intro p hp
    simp only [List.mem_cons, List.not_mem_nil, or_false] at hp
    rcases hp with rfl | rfl
    · exact hx
    · exact hl
  have kh : Stays g (hid s.heap [(x, osD (osO d l) es ep t), (l, liObj vs n)]) := hid_stays kg (by simp [gx, gl])
  have X0 := X.keeps kh
  have T0 := T.keeps kh
  have Oy0 := Ox.apart (ox := osD (osO d l) es ep t) (ol := liObj vs n) Oy nx nl
  have hd0 := Ox.dict_hid (ox := osD (osO d l) es ep t) (ol := liObj vs n)
  have Xs := X.keeps kg
  have Ts := T.keeps kg
  clear X T
  revert X0; k_fill; intro X0
  refine enterN [("self", .ref x), ("other", .ref y)] hn Xs Ts.nolimit (by k_is) (by k_is) (by omega) (BindsTo.of_eq rfl) (locs rfl) ?_
  clear Xs Ts
  intro h₁ L F N
  k_steps
  refine ⟨os_method (s := ⟨h₁, _, _, _, _⟩) (X0.keeps F.keep) (S := V) ⟨⟨es, ep, t, N.get (.head _), H⟩, rfl, rfl, F.keep _ _ hd0⟩ (f := 209) (by kernel_rfl) (by kernel_rfl) ?_⟩
  k_steps
  have Ox1 : OSx h₁ x d l V := ⟨⟨es, ep, t, N.get (.head _), H⟩, F.keep _ _ hd0, vs, n, N.get (.tail _ (.head _)), hi⟩
  refine ⟨wpAny_call (symUpd_in w _ ⟨h₁, _, _, _, _⟩ _ _ _ _ _ _ _ _ _ _ _ _ _ _ _ X0 T0 F.keep (by show A.depth + 1 + 2 < _; omega) hh (N.fresh (.head _)) (N.fresh (.tail _ (.head _))) Ox1 (Oy0.stays F.keep) nx nl hW fun h7 tk7 l7 hl7 O7 k7 => ?_)⟩
  have F7 := fr_two F N (.head _) (.tail _ (.head _)) k7
  have N7 : News (hid s.heap [(x, osD (osO d l) es ep t), (l, liObj vs n)]) L h7 [] := News.nil
  have hx1 := N.get (.head _)
  have kF := F.keep
  clear F N
  dsimp only
  k_steps
  refine hR h7 _ l7 ?_ O7 fun b z nb nl e => F7.keep b z (hideAll_get _ e (by simp [nb, nl]))
  by_cases e1 : l7 = l
  · exact .inl e1
  refine .inr ?_
  cases q : s.heap.get? l7 with
  | none => rfl
  | some o =>
    have z := hl7.resolve_left e1
    dsimp only at z
    by_cases e2 : l7 = x
    · subst e2; rw [hx1] at z; cases z
    · rw [kF _ _ (hideAll_get _ q (by simp [e1, e2]))] at z; cases z

end Mine

end

section
open PySem PySem.W PyProof.Rows PySem.Calls
open PySem.Builtin.Frozenset PySem.Builtin PySem.Builtin.ObjectAttr PySem.Builtin.Getset_descriptor
namespace Mine
theorem sig_set_init : Manifest.signature? "set.__init__" = some ⟨.positional, "set", "*", .self, [⟨"iterable", .posOnly, false⟩]⟩ := by
  rw [signature?_of (id := "set.__init__") (n := ['_', '_', 't', 'i', 'n', 'i', '_', '_']) (o := ['t', 'e', 's']) (by kernel_rfl) PySem.F.owner_set]; kernel_rfl
theorem kind_set_init : builtinKind "set.__init__" = some .slot := by kernel_rfl
theorem split_set_init : splitId "set.__init__" = some ("set", "__init__") := by kernel_rfl

theorem check_init {w : World} {A : Around} {E : Value → Shared → Prop} {s : Shared} {x l : Addr} {Q : Unit → Shared → Prop} (X : (hd.heap_39 w.params).In s.heap)
    (hi : Looks (model PySem.Challenge.rw_ae5044_01.row.prog w) s.heap (isInstance (.ref x) (.type "set")) true) (L1 : Looks (model PySem.Challenge.rw_ae5044_01.row.prog w) s.heap (typeOf (.ref x)) (.ref 232)) (q : Q () s) :
    wpAny (model PySem.Challenge.rw_ae5044_01.row.prog w) A (checkBuiltinCall "set.__init__" ⟨[.ref x, .ref l], []⟩) Q E s := by
  simp only [checkBuiltinCall, kind_set_init, split_set_init, sig_set_init]
  refine wpAny_bind (hi.here ?_)
  simp only [Bool.not_true, Bool.false_eq_true, if_false]
  show wpAny _ A (Bind.checkArgs "set.__init__" ⟨.positional, "set", "*", .self, [⟨"iterable", .posOnly, false⟩]⟩ ⟨[.ref x, .ref l], []⟩) Q E s
  have hC := X _ _ (clO_at _)
  unfold Bind.checkArgs
  dsimp only
  have p1 : Bind.printed "set" true ⟨.positional, "set", "*", .self, [⟨"iterable", .posOnly, false⟩]⟩ (some (.ref x)) = pure "set" := by rfl
  have e1 : ∀ {M : Model} {A : Around} {E : Value → Shared → Prop} {s : Shared} {Q : String → Shared → Prop}, (∀ y, Q y s) → Looks M s.heap (typeOf (.ref x)) (.ref 232) → s.heap.get? 232 = some clO → wpAny M A (Bind.printed "*" false ⟨.positional, "set", "*", .self, [⟨"iterable", .posOnly, false⟩]⟩ (some (.ref x))) Q E s := by
    intro M A E s Q h L hC
    unfold Bind.printed Bind.receiverType typeNameWhole classData
    rw [if_neg (by decide)]
    refine wpAny_bind (wpAny_bind (m := typeOf (.ref x)) (L _ _ _ _ (fun _ _ e => e) ?_))
    refine wpAny_pure (wpAny_bind (wpAny_bind (wpAny_bind (wpAny_load hC ?_))))
    exact wpAny_pure (wpAny_pure (wpAny_pure (h _)))
  refine wpAny_bind (wpAny_of_eq p1 (wpAny_bind (e1 (fun y => ?_) L1 hC)))
  have e2 : Bind.check ⟨.positional, "set", "*", .self, [⟨"iterable", .posOnly, false⟩]⟩ "set" y 1 [] = pure () := by kernel_rfl
  show wpAny _ _ ((Bind.check ⟨.positional, "set", "*", .self, [⟨"iterable", .posOnly, false⟩]⟩ "set" y 1 []).onRaise _) _ _ _
  rw [e2]
  exact wpAny_onRaise (wpAny_pure q)

theorem set_init {w : World} {A : Around} {E : Value → Shared → Prop} {s : Shared} {x l : Addr} {o : Obj} {t : SetTable} {vs : List Value} {V : List Int} {Q : Value → Shared → Prop} (X : (hd.heap_39 w.params).In s.heap)
    (hh : A.handled = none) (hl : s.heap.IsList l vs.toArray) (hi : IntsAre vs V) (hsm : ∀ i ∈ V, Sm i) (hx : s.heap.get? x = some (osD o #[] 0 t)) (hc : o.cls = .ref 232) (ht : t.fill = 0)
    (h : ∀ h' tk S', (∀ i, i ∈ S' ↔ i ∈ V) → SetAt h' x o S' → KeepBut x s.heap h' → Q .none { s with heap := h', toks := tk }) : wpAny (model PySem.Challenge.rw_ae5044_01.row.prog w) A (call (.builtin "set.__init__") [.ref x, .ref l]) Q E s := by
  have H : SetAt s.heap x o [] := ⟨#[], 0, t, hx, .empty (fits0 ht)⟩
  have C : SetCls PySem.Challenge.rw_ae5044_01.row.prog w s.heap o := os_cls X hc
  have L1 := looks_cls (M := model PySem.Challenge.rw_ae5044_01.row.prog w) hx
  have L2 : Looks (model PySem.Challenge.rw_ae5044_01.row.prog w) s.heap (typeOf (.ref x)) (.ref 232) := hc ▸ L1
  have hC := X _ _ (clO_at _)
  refine wpAny_call (codeAny_call_builtin PySem.F.slot_set_init.plain PySem.F.entry_set_init (check_init X (H.inst C) L2 ?_))
  refine wpAny_mono (Q := fun fin s' => ∃ v, fin = .done (.ret v) ∧ Q v s') (E := E) ?_ (fun fin s' h' => by obtain ⟨v, rfl, hv⟩ := h'; exact hv) fun _ _ z => z
  unfold Builtin.«set.__init__» typeNameOfCut shownTypeOf
  refine wpAny_bind (m := noKeywords "set" _) (wpAny_of_eq (a := ()) (by rfl) ?_)
  dsimp only
  refine wpAny_bind (wpAny_bind (wpAny_bind (L2 _ _ _ _ (fun _ _ e => e) ?_)))
  rw [if_neg (by decide)]
  refine wpAny_pure ?_
  unfold typeNameCut classData
  refine wpAny_bind (wpAny_bind (wpAny_load hC (wpAny_pure ?_)))
  refine wpAny_of_eq (a := "OrderedSet") (by kernel_rfl) ?_
  refine wpAny_bind (wpAny_of_eq (a := ()) (by rfl) ?_)
  unfold addrOf
  refine wpAny_bind (wpAny_pure ?_)
  unfold setUsed
  refine wpAny_bind (wpAny_bind (wpAny_setState_of hx rfl (fits0 ht) (wpAny_pure ?_)))
  dsimp only
  rw [ht]
  simp only [bne_self_eq_false, Bool.false_eq_true, if_false]
  refine wpAny_bind (update_list hh hl hi hsm H fun h' tk S' hS' HS' kp => ?_)
  exact wpAny_pure ⟨_, rfl, h h' tk S' (by simpa using hS') HS' kp⟩
end Mine

end

section
open PySem PySem.W PyProof.Rows PySem.Calls
namespace Mine
local macro_rules | `(tactic| walk_at "getAttr ref") => `(tactic| refine Mine.halt_at ?_)
local macro_rules | `(tactic| walk_at "setAttr ref") => `(tactic| refine Mine.halt_at ?_)
local macro_rules | `(tactic| walk_at "getMethod ref") => `(tactic| refine Mine.halt_at ?_)
local macro_rules | `(tactic| walk_at "getMethod type:set") => `(tactic| refine Mine.halt_at ?_)
local macro_rules | `(tactic| walk_at "call ref") => `(tactic| refine Mine.halt_at ?_)
local macro_rules | `(tactic| walk_at "call builtin:set.__init__") => `(tactic| refine Mine.halt_at ?_)

theorem mem_addU {acc : List Int} {v i : Int} : i ∈ addU acc v ↔ i ∈ acc ∨ i = v := by
  unfold addU; split
  · rename_i h; exact ⟨.inl, fun z => z.elim id fun e => e ▸ h⟩
  · rw [List.mem_append, List.mem_singleton]
theorem mem_foldl_addU {V : List Int} : ∀ {acc : List Int} {i : Int}, i ∈ V.foldl addU acc ↔ i ∈ acc ∨ i ∈ V := by
  induction V with
  | nil => intro acc i; simp
  | cons v V ih => intro acc i; rw [List.foldl_cons, ih, mem_addU, List.mem_cons, or_assoc]
theorem mem_uniqL {V : List Int} {i : Int} : i ∈ uniqL V ↔ i ∈ V := by unfold uniqL; rw [mem_foldl_addU]; simp
theorem nodup_addU {acc : List Int} {v : Int} (h : acc.Nodup) : (addU acc v).Nodup := by
  unfold addU; split
  · exact h
  · rename_i q; exact List.nodup_append.mpr ⟨h, by simp, fun a ha b hb e => by rw [List.mem_singleton] at hb; subst hb; exact q (e ▸ ha)⟩
theorem nodup_foldl_addU {V : List Int} : ∀ {acc : List Int}, acc.Nodup → (V.foldl addU acc).Nodup := by
  induction V with
  | nil => intro acc h; exact h
  | cons v V ih => intro acc h; exact ih (nodup_addU h)
theorem nodup_uniqL (V : List Int) : (uniqL V).Nodup := nodup_foldl_addU (by simp)

theorem set_list0 {w : World} {A : Around} {E : Value → Shared → Prop} {s : Shared} {x d : Addr} {v : Value} {es : Array (Int × Value)} {ep : Nat} {t : SetTable} {S : List Int} {Q : Unit → Shared → Prop}
    (X : (hd.heap_39 w.params).In s.heap) (hx : s.heap.get? x = some (osD (osN d) es ep t)) (H : SetIs es t S) (hd : s.heap.get? d = some (dictOf [] 0))
    (h : ∀ h', KeepBut x s.heap h' → h'.get? x = some (osD { cls := .ref 232, dict := some d, slots := #[some v] } es ep t) → Q () { s with heap := h', toks := s.toks + 1 }) :
    wpAny (model PySem.Challenge.rw_ae5044_01.row.prog w) A (setAttr (.ref x) "_list" v) Q E s := by
  refine os_set_list X (o := osN d) (S := S) ⟨⟨es, ep, t, hx, H⟩, rfl, rfl, hd⟩ ?_
  refine h _ (fun b z hb e => (Heap.SameBut.update ..).extBut b z hb e) ?_
  exact Heap.get?_update_self _ hx rfl

theorem init_os {w : World} {A : Around} {s : Shared} {p : Program} {loose : List Str} {mean : ExcName → Option Value} {mg mb : Str → Option Value} {x d l : Addr} {R : Result → Shared → Prop} {g : Heap} {t : SetTable} {vs : List Value} {V : List Int} {n : Nat}
   (X : (hd.heap_39 w.params).In g) (T : Top p loose mean mg mb g) (kg : Stays g s.heap) (hr : A.depth + 2 < recursionLimit) (hh : A.handled = none) (gx : g.get? x = none)
   (hx : s.heap.get? x = some (osD (osN d) #[] 0 t)) (ht : t.fill = 0) (hdx : s.heap.get? d = some (dictOf [] 0)) (hl : s.heap.get? l = some (liObj vs n)) (hi : IntsAre vs V) (hV : V.length ≤ 1000) (hsm : ∀ i ∈ V, Sm i)
   (hR : ∀ h' tk l', s.heap.get? l' = none → OSx h' x d l' (uniqL V) → (∀ b z, b ≠ x → s.heap.get? b = some z → h'.get? b = some z) → R (.ok (.ret .none)) { s with heap := h', toks := tk }) :
   codeAny (model PySem.Challenge.rw_ae5044_01.row.prog w) A (.call (.ref 44) ⟨[.ref x, .ref l], []⟩) R s := by
  have hn : ∀ p ∈ [(x, osD (osN d) #[] 0 t)], s.heap.get? p.1 = some p.2 := by
    intro p hp; rw [List.mem_singleton] at hp; subst hp; exact hx
  have kh : Stays g (hid s.heap [(x, osD (osN d) #[] 0 t)]) := hid_stays kg (by simp [gx])
  have X0 := X.keeps kh
  have T0 := T.keeps kh
  have Xs := X.keeps kg
  have Ts := T.keeps kg
  have kd : d ≠ x := fun e => by subst e; rw [hx] at hdx; cases hdx
  have kl : l ≠ x := fun e => by subst e; rw [hx] at hl; cases hl
  have hd0 : (hid s.heap [(x, osD (osN d) #[] 0 t)]).get? d = some (dictOf [] 0) := hideAll_get _ hdx (by simp [kd])
  have hl0 : (hid s.heap [(x, osD (osN d) #[] 0 t)]).get? l = some (liObj vs n) := hideAll_get _ hl (by simp [kl])
  have hl1 : (hid s.heap [(x, osD (osN d) #[] 0 t)]).IsList l vs.toArray := ⟨_, hl0, rfl, n, rfl⟩
  clear X T
  revert X0; k_fill; intro X0
  refine enterN [("self", .ref x), ("d", .ref l)] hn Xs Ts.nolimit (by k_is) (by k_is) (by omega) ?c9 (locs rfl) ?_
  case c9 => exact binds_K Xs rfl (by k_is) rfl rfl rfl
  clear Xs Ts
  intro h₁ L F N
  k_steps
  refine ⟨wpAny_call (uniq (s := ⟨h₁, _, _, _, _⟩) (X0.keeps F.keep) (T0.keeps F.keep) (by show A.depth + 1 < _; omega) hh ⟨_, F.keep _ _ hl0, rfl, n, rfl⟩ hi hV fun h2 tk2 B us m k2 hB hgB hus => ?_)⟩
  obtain ⟨F2, N2, ne2⟩ := news_new F N k2 hB hgB
  have hBx : B ≠ x := (ne2 _ (.head _)).symm
  clear F N
  k_steps
  refine ⟨set_list0 (s := ⟨h2, _, _, _, _⟩) (X0.keeps F2.keep) (N2.get (.tail _ (.head _))) (.empty (fits0 ht)) (F2.keep _ _ hd0) fun h3 k3 hg3 => ?_⟩
  obtain ⟨F3, N3⟩ := fn_put (pre := [(B, liObj us m)]) (post := []) F2 N2 (by simp [hBx]) (by simp) k3 hg3
  simp only [List.cons_append, List.nil_append] at N3
  clear F2 N2 k3
  k_steps
  refine ⟨get_setm F3 X0 (id := "set.__init__") (by kernel_rfl) (by kernel_rfl) ?_⟩
  k_steps
  refine ⟨os_list (s := ⟨h3, _, _, _, _⟩) (X0.keeps F3.keep) (o := osO d B) (S := []) ⟨⟨#[], 0, t, N3.get (.tail _ (.head _)), .empty (fits0 ht)⟩, rfl, rfl, F3.keep _ _ hd0⟩ rfl ?_⟩
  k_steps
  have husm : ∀ i ∈ uniqL V, Sm i := fun i hi => hsm i (mem_uniqL.mp hi)
  refine ⟨set_init (s := ⟨h3, _, _, _, _⟩) (X0.keeps F3.keep) hh ⟨_, N3.get (.head _), rfl, m, rfl⟩ hus husm (N3.get (.tail _ (.head _))) rfl ht fun h4 tk4 S4 hS4 HS4 k4 => ?_⟩
  obtain ⟨es4, ep4, t4, hg4, H4⟩ := HS4
  obtain ⟨F4, N4⟩ := fn_put (pre := [(B, liObj us m)]) (post := []) F3 N3 (by simp [hBx]) (by simp) k4 hg4
  simp only [List.cons_append, List.nil_append] at N4
  clear F3 N3 k4
  k_steps
  have hBs : s.heap.get? B = none := by
    cases q : s.heap.get? B with
    | none => rfl
    | some o => have a := N4.fresh (.head _); rw [hideAll_get _ q (by simp [hBx])] at a; cases a
  exact hR h4 _ B hBs ⟨⟨es4, ep4, t4, hg4, H4.of_mem (nodup_uniqL V) hS4⟩, F4.keep _ _ hd0, us, m, N4.get (.head _), hus⟩ fun b z nb e => F4.keep b z (hideAll_get _ e (by simp [nb]))
end Mine

end

section
open PySem PySem.W PyProof.Rows PySem.Calls
namespace Mine
theorem make_row {w : World} {A : Around} {s : Shared} {p : Program} {loose : List Str} {mean : ExcName → Option Value} {mg mb : Str → Option Value} {l : Addr} {R : Result → Shared → Prop} {vs : List Value} {V : List Int} {n : Nat}
   (X : (hd.heap_39 w.params).In s.heap) (T : Top p loose mean mg mb s.heap) (hr : A.depth + 4 < recursionLimit) (hh : A.handled = none)
   (hl : s.heap.get? l = some (liObj vs n)) (hi : IntsAre vs V) (hV : V.length ≤ 1000) (hsm : ∀ i ∈ V, Sm i)
   (hR : ∀ h' tk x d l', Stays s.heap h' → s.heap.get? x = none → s.heap.get? d = none → s.heap.get? l' = none → OSx h' x d l' (uniqL V) → R (.ok (.ret (.ref x))) { s with heap := h', toks := tk }) :
   codeAny (model PySem.Challenge.rw_ae5044_01.row.prog w) A (.call (.ref 232) ⟨[.ref l], []⟩) R s := by
  refine make_os X fun t ht => ?_
  have k1 := newH_stays s.heap t
  have O := newH_os s.heap ht
  have e1 : (s.heap.push (dictOf [] 0)).objs.size = s.heap.objs.size + 1 := Heap.size_push _ _
  have fx : s.heap.get? (s.heap.objs.size + 1) = none := by
    cases q : s.heap.get? (s.heap.objs.size + 1) with
    | none => rfl
    | some o => exact absurd (Heap.lt_size q) (Nat.not_lt.mpr (Nat.le_succ _))
  have hx : (newH s.heap t).get? (s.heap.objs.size + 1) = some (osD (osN s.heap.objs.size) #[] 0 t) := by
    have := Heap.get?_push_size (s.heap.push (dictOf [] 0)) (o := { cls := .ref 232, dict := some s.heap.objs.size, data := .set #[] 0 t }) rfl
    rw [e1] at this; exact this
  refine init_os (s := { s with heap := newH s.heap t }) (g := s.heap) X T k1 ?_ ?_ fx hx ht O.dat (k1 _ _ hl) hi hV hsm fun h' tk l' hl' O' k' => ⟨rfl, ?_⟩
  · have e : (A.under (Code.builtin "type.__call__" { pos := [Value.ref 232, Value.ref l] })).depth = A.depth + 1 := rfl
    rw [e]; omega
  · exact hh
  have k2 : Stays s.heap h' := fun b z e => k' b z (fun q => by rw [q, fx] at e; cases e) (k1 _ _ e)
  exact hR h' tk _ _ l' k2 fx (get_size _) (k1.none hl') O'
end Mine

end

section
open PySem PySem.W PyProof.Rows PySem.Calls
namespace Mine
section
variable {w : World} {A : Around} {E : Value → Shared → Prop} {s : Shared} {p : Program} {loose : List Str} {mean : ExcName → Option Value} {mg mb : Str → Option Value} {g : Heap} {L : Addr} {m : Str → Option Value} {x d l : Addr} {V : List Int}

theorem SrcN.os (F : Fr g L s.heap m) (X : (hd.heap_39 w.params).In g) (T : Top p loose mean mg mb g) (hh : A.handled = none) (hr : A.depth < recursionLimit) (O : OSx s.heap x d l V) : SrcN PySem.Challenge.rw_ae5044_01.row.prog w A s (.ref x) l := by
  intro E Q hQ
  obtain ⟨vs, n, hl, hi⟩ := O.lst
  have hl1 : s.heap.IsList l vs.toArray := ⟨_, hl, rfl, n, rfl⟩
  obtain ⟨ox, I, _⟩ := O.osat.inst
  refine owit_iter F X I (by kernel_rfl) (by kernel_rfl) (f := 114) ?_
  refine wpAny_call (iterOS (X.keeps F.keep) (T.keeps F.keep) hr hh O.osat rfl hl1 fun h' tk J k hn hit => ?_)
  unfold OwitIt
  exact wpAny_specialOf (s := { s with heap := h', toks := tk }) hit.typeIs slot_listiter_next.lookup (hQ h' tk J k hn hit)

theorem lenHint_os {Q : Bool → Shared → Prop} (X : (hd.heap_39 w.params).In s.heap) (O : OSx s.heap x d l V) (h : ∀ b tk, Q b { s with toks := tk }) : wpAny (model PySem.Challenge.rw_ae5044_01.row.prog w) A (Builtin.List.listLengthHint (.ref x)) Q E s := by
  have H := O.osat.set
  have C := os_cls (prog := PySem.Challenge.rw_ae5044_01.row.prog) (o := osO d l) X rfl
  have P := os_len (prog := PySem.Challenge.rw_ae5044_01.row.prog) (o := osO d l) X rfl
  have LI := H.inst C
  obtain ⟨es, ep, t, hg, HS⟩ := id H
  have LT := looks_cls (M := model PySem.Challenge.rw_ae5044_01.row.prog w) hg
  unfold Builtin.List.listLengthHint
  refine wpAny_bind (specialOf_ hg P ?_)
  dsimp only
  rw [show splitId "set.__len__" = some ("set", "__len__") by kernel_rfl]
  dsimp only
  refine wpAny_bind (LI _ _ _ _ (fun _ _ e => e) ?_)
  simp only [Bool.not_true, Bool.false_eq_true, if_false]
  rw [if_pos (by decide +kernel)]
  refine wpAny_bind (LT _ _ _ _ (fun _ _ e => e) ?_)
  show wpAny _ _ (call (.builtin "len") [.ref x] >>= _) _ _ _
  refine wpAny_bind (set_len H C P ?_)
  show wpAny _ _ (pure (((V.length : Nat) : Int) != 0)) _ _ _
  exact wpAny_pure (h _ _)

theorem itemsOf_list {vs : List Value} {acc : Array Value} (h : ItemsOf (fun i v => vs.toArray[i]? = some v) acc vs.length) : acc = vs.toArray := by
  refine Array.ext_getElem? fun j => ?_
  cases q : acc[j]? with
  | none =>
    rw [Array.getElem?_eq_none_iff, h.1] at q
    rw [eq_comm, Array.getElem?_eq_none_iff]; simpa using q
  | some v => exact (h.2 j v q).symm

theorem extend_os {S : Addr} {res : Value} {c : Nat} {R : Result → Shared → Prop} (F : Fr g L s.heap m) (X : (hd.heap_39 w.params).In g) (T : Top p loose mean mg mb g) (hh : A.handled = none) (hr : A.depth < recursionLimit) (O : OSx s.heap x d l V)
    (hS : s.heap.get? S = some (liObj [] c)) (hlS : l ≠ S)
    (hR : ∀ h' tk vs k, IntsAre vs V → h'.get? S = some (liObj vs k) → KeepBut S s.heap h' → R (.ok (.ret res)) { s with heap := h', toks := tk }) :
    wpAny (model PySem.Challenge.rw_ae5044_01.row.prog w) A.in1 (Builtin.List.listExtendWith (.ref S) (.ref x) res)
      (fun fin s' => match fin with | .done f => R (.ok f) s' | .again c' => c'.quiet = true ∧ codeAny (model PySem.Challenge.rw_ae5044_01.row.prog w) A c' R s') (fun e s' => R (.error e) s') s := by
  obtain ⟨⟨es, ep, t, hg, HS⟩, hdat, vs, n, hl, hi⟩ := id O
  have hSx : S ≠ x := fun e => by subst e; rw [hS] at hg; cases hg
  have hSd : S ≠ d := fun e => by subst e; rw [hS] at hdat; simp at hdat
  have LT := looks_cls (M := model PySem.Challenge.rw_ae5044_01.row.prog w) hg
  have hV := O.len
  unfold Builtin.List.listExtendWith
  refine wpAny_bind (LT _ _ _ _ (fun _ _ e => e) ?_)
  have h1 : Builtin.List.listSameRef (.ref S) (.ref x) = false := by simp [Builtin.List.listSameRef, hSx]
  show wpAny _ _ (if (Builtin.List.listSameRef (.ref S) (.ref x) || (Value.ref 232) == Value.type "list" || (Value.ref 232) == Value.type "tuple") = true then _ else _) _ _ _
  rw [h1, show (Value.ref 232 == Value.type "list") = false by decide, show (Value.ref 232 == Value.type "tuple") = false by decide]
  simp only [Bool.or_false, Bool.false_eq_true, if_false]
  refine wpAny_bind (SrcN.os (A := A.in1) F X T hh hr O _ _ fun h1' tk I k hI hit => ?_)
  have hSI : S ≠ I := fun e => by subst e; rw [hS] at hI; cases hI
  have hlI : l ≠ I := fun e => by subst e; rw [hl] at hI; cases hI
  refine wpAny_bind (wpAny_holding (lenHint_os (s := { s with heap := h1', toks := tk }) ((X.keeps F.keep).keeps k) (O.stays k) fun b tk2 => ?_))
  have W := (Walks.list (prog := PySem.Challenge.rw_ae5044_01.row.prog) (w := w) (A := A.in1) (by exact hh) I l hlI vs.toArray).toS
  have fin : ∀ h2 c2 tk3, h2.get? S = some (liObj [] c2) → KeepBut S h1' h2 → codeAny (model PySem.Challenge.rw_ae5044_01.row.prog w) A (.builtin "list.extend.loop" ⟨[.ref S, .ref I, res], []⟩) R { s with heap := h2, toks := tk3 } := by
    intro h2 c2 tk3 hS2 k2
    refine codeAny_extend_loopS W (by rw [List.size_toArray, hi.length, sizeLine_eq]; omega) S (by simp [hSI, hlS.symm]) res _ 0 _ #[] c2 rfl (Nat.zero_le _) ⟨hit.at fun o e => k2 _ _ hSI.symm e, ⟨_, k2 _ _ hlS (k _ _ hl), rfl, n, rfl⟩⟩ hS2 (ItemsOf.nil _) fun s' acc' c' hm hS' hacc => ?_
    rw [List.size_toArray] at hacc
    rw [itemsOf_list hacc] at hS'
    have m1 := hm.heap
    have m2 := hm.gens
    have m3 := hm.drawn
    have m4 := hm.os
    clear hm
    obtain ⟨h5, g5, d5, t5, o5⟩ := s'
    dsimp only at m1 m2 m3 m4 hS'
    subst m2 m3 m4
    refine hR h5 t5 vs c' hi hS' fun b z hb e => ?_
    have hbI : b ≠ I := fun q => by subst q; rw [hI] at e; cases e
    exact m1 b z (by simp [hb, hbI]) (k2 b z hb (k b z e))
  have hS1 : h1'.get? S = some (liObj [] c) := k _ _ hS
  split
  · refine wpAny_bind (wpAny_rule ?_)
    refine wpAny_bind ?_
    show wpAny _ A.in1 (updateSeq S (·.push .none) >>= fun _ => updateSeq S (·.pop)) _ _ _
    refine wpAny_bind (wpAny_updateSeq hS1 rfl ?_)
    have hS₂ := Heap.get?_update_self (Obj.mapSeq (·.push Value.none)) hS1 rfl
    refine wpAny_updateSeq hS₂ rfl ?_
    have hS₃ := Heap.get?_update_self (Obj.mapSeq (·.pop)) hS₂ rfl
    have oth : KeepBut S h1' ((h1'.update S (Obj.mapSeq (·.push Value.none))).update S (Obj.mapSeq (·.pop))) :=
      fun b o hb e => (Heap.get?_update_other _ _ (Ne.symm hb)).trans ((Heap.get?_update_other _ _ (Ne.symm hb)).trans e)
    exact wpAny_pure ⟨plainId_quiet PySem.F.plain_extend_loop _, fin _ _ _ hS₃ oth⟩
  · exact wpAny_pure ⟨plainId_quiet PySem.F.plain_extend_loop _, fin _ _ _ hS1 fun b z hb e => e⟩
end
end Mine

end

section
open PySem PySem.W PyProof.Rows PySem.Calls
namespace Mine
section
variable {w : World} {A : Around} {E : Value → Shared → Prop} {s : Shared} {p : Program} {loose : List Str} {mean : ExcName → Option Value} {mg mb : Str → Option Value} {g : Heap} {L : Addr} {m : Str → Option Value} {x d l : Addr} {V : List Int}

theorem collect_os {Q : List Value → Shared → Prop} (F : Fr g L s.heap m) (X : (hd.heap_39 w.params).In g) (T : Top p loose mean mg mb g) (hh : A.handled = none) (hr : A.depth < recursionLimit) (O : OSx s.heap x d l V)
    (h : ∀ h' tk vs, IntsAre vs V → Stays s.heap h' → Q vs { s with heap := h', toks := tk }) : wpAny (model PySem.Challenge.rw_ae5044_01.row.prog w) A (collect (.ref x)) Q E s := by
  unfold collect
  refine wpAny_bind (wpAny_runValue (codeAny_builtin PySem.F.entry_proto_collect ?_))
  rw [Around.under_plainId PySem.F.plain_proto_collect _]
  show wpAny _ A.in1 (newList [] >>= fun l => again (.builtin "list.__iadd__" ⟨[l, .ref x], []⟩)) _ _ s
  refine wpAny_bind (wpAny_newObj_type ?_)
  refine wpAny_pure ⟨plainId_quiet PySem.F.plain_list_iadd _, codeAny_builtin PySem.F.entry_list_iadd ?_⟩
  rw [Around.under_plainId PySem.F.plain_list_iadd _]
  show wpAny _ A.in1 (Builtin.List.listExtendWith (.ref s.heap.objs.size) (.ref x) (.ref s.heap.objs.size)) _ _ _
  have k1 := Stays.push (h := s.heap) (liObj [] 0)
  have nl : l ≠ s.heap.objs.size := by obtain ⟨vs, n, hl, _⟩ := O.lst; exact ne_size hl
  refine extend_os (R := fun r s' => match r with
    | .ok (.ret v) => wpAny (model PySem.Challenge.rw_ae5044_01.row.prog w) A (match v with
      | .ref a => do
        let o ← load a
        match o.data with
        | .seq xs _ => pure xs.toList
        | _ => unsupported "internal:collect"
      | _ => unsupported "internal:collect") Q E s'
    | .ok _ => False
    | .error e => E e s') (s := { s with heap := s.heap.push (liObj [] 0) }) (c := 0) (F.keeps k1) X T hh hr (O.stays k1) (Heap.get?_push_size _ rfl) nl fun h' tk vs k hi hg kb => ?_
  show wpAny _ A (load s.heap.objs.size >>= _) _ _ _
  refine wpAny_bind (wpAny_load hg ?_)
  show wpAny _ _ (pure vs.toArray.toList) Q E _
  exact wpAny_pure (h h' tk vs hi fun b z e => kb b z (ne_size e) (k1 b z e))

theorem sorted_os {Q : Value → Shared → Prop} (F : Fr g L s.heap m) (X : (hd.heap_39 w.params).In g) (T : Top p loose mean mg mb g) (hh : A.handled = none) (hr : A.depth < recursionLimit) (O : OSx s.heap x d l V)
    (h : ∀ h' tk B vs U k, IntsAre vs U → U.Perm V → U.Pairwise (· ≤ ·) → Stays s.heap h' → s.heap.get? B = none → h'.get? B = some (liObj vs k) → Q (.ref B) { s with heap := h', toks := tk }) : wpAny (model PySem.Challenge.rw_ae5044_01.row.prog w) A (call (.builtin "sorted") [.ref x]) Q E s := by
  have hV := O.len
  refine Calls.call_function_entry kind_sorted plain_sorted entry_sorted (args_sorted1 _) ?_
  unfold Builtin.«sorted»
  refine wpAny_bind (m := PySem.checkCount "sorted" 1 1 _) (wpAny_pure ?_)
  refine wpAny_bind (collect_os (A := A.in1) F X T hh hr O fun h1 tk1 vs hi k1 => ?_)
  refine wpAny_bind (wpAny_newList ?_)
  have k2 : Stays h1 (h1.push (seqObj "list" vs.toArray 0)) := Stays.push _
  have hoL := Heap.get?_push_size h1 (o := seqObj "list" vs.toArray 0) rfl
  have hlen : vs.length = V.length := hi.length
  refine wpAny_bind (wpAny_holding (wpAny_call_entry PyProof.Rows.slot_list_sort ⟨_, hoL, rfl⟩ PyProof.Rows.entry_list_sort (list_sort_tree hoL hi (by omega) fun out ns' a1 a2 a3 => ⟨_, rfl, ?_⟩) (args_list_sort _)))
  obtain ⟨e, he⟩ := sortedHeap_at (out := out) hoL
  refine wpAny_pure ⟨_, rfl, h _ _ _ out.toList ns' e a1 a2 a3 ?_ (k1.none (get_size _)) he⟩
  intro b z eb
  have e1 := k1 b z eb
  have hb : b ≠ h1.objs.size := ne_size e1
  rw [sortedHeap_old hb (Nat.lt_of_lt_of_le (Heap.lt_size e1) (by rw [Heap.size_push]; exact Nat.le_succ _))]
  exact k2 b z e1

theorem list_os {Q : Value → Shared → Prop} (F : Fr g L s.heap m) (X : (hd.heap_39 w.params).In g) (T : Top p loose mean mg mb g) (hh : A.handled = none) (hr : A.depth < recursionLimit) (O : OSx s.heap x d l V)
    (h : ∀ h' tk B vs k, IntsAre vs V → Stays s.heap h' → s.heap.get? B = none → h'.get? B = some (liObj vs k) → Q (.ref B) { s with heap := h', toks := tk }) : wpAny (model PySem.Challenge.rw_ae5044_01.row.prog w) A (call (.type "list") [.ref x]) Q E s := by
  have k1 := Stays.push (h := s.heap) (liObj [] 0)
  have nl : l ≠ s.heap.objs.size := by obtain ⟨vs, n, hl, _⟩ := O.lst; exact ne_size hl
  refine callType_codes (Q₁ := fun obj s₁ => obj = .ref s.heap.objs.size ∧ s₁ = { s with heap := s.heap.push { cls := .type "list", data := .seq #[] } }) PySem.F.called_list (PySem.F.typeCall_list_1 _) PySem.F.entry_list_init
    (code_list_new _ ⟨rfl, rfl⟩) fun obj s₁ h₁ => ?_
  obtain ⟨rfl, rfl⟩ := h₁
  have hS : (s.heap.push { cls := .type "list", data := .seq #[] }).get? s.heap.objs.size = some { cls := .type "list", data := .seq #[] } := Heap.get?_push_size _ rfl
  refine ⟨⟨_, hS, rfl⟩, PySem.F.args_list_init_2 _ _, ?_⟩
  show wpAny _ A.in1.in1 (do let old ← Builtin.List.listItems (.ref s.heap.objs.size); Builtin.List.listUpdate (.ref s.heap.objs.size) (fun _ => #[]); letGo old.toList.reverse; Builtin.List.listExtendWith (.ref s.heap.objs.size) (.ref x) .none) _ _ _
  refine wpAny_bind ?_
  unfold Builtin.List.listItems
  refine wpAny_bind (wpAny_seqItems hS rfl (wpAny_pure ?_))
  show wpAny _ A.in1.in1 (updateSeq s.heap.objs.size (fun _ => #[]) >>= fun _ => letGo (#[] : Array Value).toList.reverse >>= fun _ => Builtin.List.listExtendWith (.ref s.heap.objs.size) (.ref x) .none) _ _ _
  refine wpAny_bind (wpAny_updateSeq hS rfl ?_)
  have hS₂ := Heap.get?_update_self (Obj.mapSeq (fun _ => (#[] : Array Value))) hS rfl
  have oth : KeepBut s.heap.objs.size (s.heap.push { cls := .type "list", data := .seq #[] }) ((s.heap.push { cls := .type "list", data := .seq #[] }).update s.heap.objs.size (Obj.mapSeq (fun _ => (#[] : Array Value)))) :=
    fun b o hb e => (Heap.get?_update_other _ _ (Ne.symm hb)).trans e
  have k2 : Stays s.heap ((s.heap.push { cls := .type "list", data := .seq #[] }).update s.heap.objs.size (Obj.mapSeq (fun _ => (#[] : Array Value)))) := fun b z e => oth b z (ne_size e) (k1 b z e)
  refine wpAny_bind (wpAny_letGo ?_)
  refine extend_os (A := A.in1) (s := { s with heap := (s.heap.push { cls := .type "list", data := .seq #[] }).update s.heap.objs.size (Obj.mapSeq (fun _ => (#[] : Array Value))) }) (F.keeps k2) X T hh hr (O.stays k2) hS₂ nl fun h' tk vs k hi hg kb => ?_
  exact ⟨rfl, h h' tk _ vs k hi (fun b z e => kb b z (ne_size e) (k2 b z e)) (get_size _) hg⟩
end
end Mine

end

section
open PySem PySem.W PyProof.Rows PySem.Calls
namespace Mine
section
variable {w : World} {A : Around} {E : Value → Shared → Prop} {s : Shared} {p : Program} {loose : List Str} {mean : ExcName → Option Value} {mg mb : Str → Option Value} {g : Heap} {L : Addr} {m : Str → Option Value} {x d l y dy ly : Addr} {V W : List Int}

theorem os_binop {op : Operator} {f : Addr} {opL : List Int → List Int → List Int} {k : Nat} {Q : Value → Shared → Prop} (F : Fr g L s.heap m) (X : (hd.heap_39 w.params).In g) (T : Top p loose mean mg mb g) (hh : A.handled = none) (hr : A.depth + k < recursionLimit)
    (hop : OpAt w k f opL) (hs : findIn (hd.heap_39 w.params) (.ref 232) (PySem.dunder op.info.2) = some (some (.ref f))) (hf : isFn (hd.heap_39 w.params) (.ref f) = true) (Ox : OSx s.heap x d l V) (Oy : OSx s.heap y dy ly W)
    (h : ∀ h' tk r dr lr, Stays s.heap h' → s.heap.get? r = none → s.heap.get? dr = none → s.heap.get? lr = none → OSx h' r dr lr (opL V W) → Q (.ref r) { s with heap := h', toks := tk }) :
    wpAny (model PySem.Challenge.rw_ae5044_01.row.prog w) A (binaryOp op (.ref x) (.ref y)) Q E s := by
  obtain ⟨ox, I, _⟩ := Ox.osat.inst
  obtain ⟨oy, Iy, _⟩ := Oy.osat.inst
  refine binop_K F X I Iy.type (by kernel_rfl) hs hf (wpAny_call (hop _ _ _ _ _ _ _ _ _ _ _ _ _ _ _ _ (X.keeps F.keep) (T.keeps F.keep) hr hh Ox Oy fun h' tk r dr lr a b c e O => ?_))
  exact h h' tk r dr lr a b c e O

theorem os_inplace {op : Operator} {f : Addr} {opL : List Int → List Int → List Int} {k : Nat} {Q : Value → Shared → Prop} (F : Fr g L s.heap m) (X : (hd.heap_39 w.params).In g) (T : Top p loose mean mg mb g) (hh : A.handled = none) (hr : A.depth + k < recursionLimit)
    (hop : InAt w k f opL fun x => .ref x) (hs : findIn (hd.heap_39 w.params) (.ref 232) (PySem.dunderI op.info.2) = some (some (.ref f))) (hf : isFn (hd.heap_39 w.params) (.ref f) = true) (Ox : OSx s.heap x d l V) (Oy : OSx s.heap y dy ly W)
    (gx : g.get? x = none) (gl : g.get? l = none) (nx : y ≠ x) (nl : ly ≠ l) (hW : W.length < 8)
    (h : ∀ h' tk l', (l' = l ∨ s.heap.get? l' = none) → OSx h' x d l' (opL V W) → (∀ b z, b ≠ x → b ≠ l → s.heap.get? b = some z → h'.get? b = some z) → Q (.ref x) { s with heap := h', toks := tk }) :
    wpAny (model PySem.Challenge.rw_ae5044_01.row.prog w) A (inplaceOp op (.ref x) (.ref y)) Q E s := by
  obtain ⟨ox, I, _⟩ := Ox.osat.inst
  have X1 := X.keeps F.keep
  unfold inplaceOp
  refine wpAny_holding (wpAny_bind (I.type.here ?_))
  have fills : Looks (model PySem.Challenge.rw_ae5044_01.row.prog w) s.heap (fillsInplaceSlot (.ref 232) op.info.2 (op == .Add)) true := by
    intro A Q E s' k' q
    unfold fillsInplaceSlot
    refine wpAny_bind (os_mro X1 A _ E s' k' ?_)
    rw [List.anyM_cons]
    refine wpAny_bind (wpAny_bind (looks_findIn X1 hs A _ E s' k' ?_))
    dsimp only
    rw [if_pos (show (!ownNameWrapper (.ref f) (PySem.dunderI op.info.2)) = true from rfl)]
    exact wpAny_pure (wpAny_pure q)
  refine wpAny_bind (fills.here ?_)
  rw [if_pos rfl]
  refine wpAny_bind (m := tryMethod (.ref x) _ (.ref y)) ?_
  unfold tryMethod
  refine wpAny_bind (special_fn X1 I hs (beq_iff_eq.mp hf) (wpAny_call (hop _ _ _ _ _ _ _ _ _ _ _ _ _ _ _ _ _ X T F.keep hr hh gx gl Ox Oy nx nl hW fun h' tk l' hl' O' k' => ?_)))
  exact wpAny_pure (wpAny_bind (wpAny_rule (wpAny_pure (h h' tk l' hl' O' k'))))
end
end Mine

end

section
open PySem PySem.W PyProof.Rows PySem.Calls
namespace Mine

theorem lawBody_ex (P : Params) : ∃ b : List Stmt, b = match (hd.heap_39 P).lookup 240 with
  | some ⟨_, _, .func f, _⟩ => (match f.body with | .stmts b => b | _ => [])
  | _ => [] := ⟨_, rfl⟩
/-- the law's body, hidden from whnf -/
noncomputable def lawBody (P : Params) : List Stmt := Classical.choose (lawBody_ex P)
theorem lawBody_eq (P : Params) : lawBody P = match (hd.heap_39 P).lookup 240 with
  | some ⟨_, _, .func f, _⟩ => (match f.body with | .stmts b => b | _ => [])
  | _ => [] := Classical.choose_spec (lawBody_ex P)
noncomputable def lawScope (P : Params) : Scope := match (hd.heap_39 P).lookup 240 with
  | some ⟨_, _, .func f, _⟩ => f.scope
  | _ => { kind := .function, names := [], isGenerator := false, isCoroutine := false }

theorem law_at {P : Params} {name qual : Str} {params : Arguments} {body : List Stmt} {scope : Scope} {dV kV doc pm cdv ct oc : Value} {an od : Option Addr} {osl : Array (Option Value)} {G : List Stmt → Scope → Prop}
    (ho : (hd.heap_39 P).lookup 240 = some ⟨oc, od, .func (fnOf name qual params body scope dV kV doc pm an cdv ct), osl⟩) (h : G body scope) : G (lawBody P) (lawScope P) := by
  have e1 : lawBody P = body := by rw [lawBody_eq, ho]
  have e2 : lawScope P = scope := by unfold lawScope; rw [ho]
  rw [e1, e2]; exact h

/-- the i-th statement of the law -/
theorem lawSt_ex (P : Params) (i : Nat) : ∃ st : Stmt, st = (lawBody P).getD i (.Pass default) := ⟨_, rfl⟩
noncomputable def lawSt (P : Params) (i : Nat) : Stmt := Classical.choose (lawSt_ex P i)
theorem lawSt_eq (P : Params) (i : Nat) : lawSt P i = (lawBody P).getD i (.Pass default) := Classical.choose_spec (lawSt_ex P i)
noncomputable abbrev lawEnv (P : Params) (L fa : Addr) (cd : Value) : Env := envOfC "law" (lawScope P) L fa cd

theorem law_len (P : Params) : (lawBody P).length = 11 := by rw [lawBody_eq]; kernel_rfl
theorem law_all (P : Params) : lawBody P = [lawSt P 0, lawSt P 1, lawSt P 2, lawSt P 3, lawSt P 4, lawSt P 5, lawSt P 6, lawSt P 7, lawSt P 8, lawSt P 9, lawSt P 10] := by
  have e := law_len P
  simp only [lawSt_eq]
  generalize lawBody P = b at e
  match b, e with
  | [_, _, _, _, _, _, _, _, _, _, _], _ => rfl
end Mine

end

section
open PySem PySem.W PyProof.Rows PySem.Calls
namespace Mine
section
variable {prog : Program} {w : World} {A : Around} {E : Value → Shared → Prop} {s : Shared}

theorem paired_map {f : Int → Int} {vs ys : List Value} (h : Paired (fun v y => ∀ i t, v = .int i t → ∃ t', y = .int (f i) t') vs ys) : ∀ {V : List Int}, IntsAre vs V → IntsAre ys (V.map f) := by
  induction h with
  | nil => intro V hV; cases hV; exact .nil
  | cons e _ ih =>
    intro V hV
    cases hV with
    | cons n t hV =>
      obtain ⟨t', rfl⟩ := e n t rfl
      exact .cons _ _ (ih hV)

/-- `[ELT for x in SOURCE]` over a list of ints, the element an int again -/
theorem comp_map {env : Env} {x : Str} {px pos : Pos} {elt iter : Expr} {scope : Scope} {cl : List (Str × Addr)} {Q : Value → Shared → Prop} (f : Int → Int)
    (hh : A.handled = none)
    (hclos : closureFor scope env = pure cl) (hcell : ∀ y ∈ scope.names, y.2 ≠ .cell) (hkind : scope.kind = .function)
    (hnames : ∀ y ∈ scope.names, y.2 = .local → scope.names.lookup y.1 = some .local) (hx : scope.names.lookup x = some .local)
    (h : wpAny (model prog w) A (eval iter env) (fun xv s₁ => Halt (∃ l us U n, SrcN prog w A s₁ xv l ∧ s₁.heap.get? l = some (liObj us n) ∧ IntsAre us U ∧ U.length ≤ 1000 ∧
      (∀ C i tk s₃ m₃ E', i ∈ U → s₁.heap.get? C = none → s₃.heap.Ns C m₃ → m₃ x = some (.int i tk) → Stays s₁.heap s₃.heap →
        wpAny (model prog w) A (eval elt (compEnvC scope cl C env)) (fun y s₄ => (∃ t, y = .int (f i) t) ∧ Keeps s₃ s₄) E' s₃) ∧
      (∀ D h' tk ys k, s₁.heap.get? D = none → h'.get? D = some (liObj ys k) → IntsAre ys (U.map f) → Stays s₁.heap h' → Q (.ref D) { s₁ with heap := h', toks := tk }))) E s)
    (hs : ∀ x, foldedSetIterable iter env x = pure x := by intro _; rfl) :
    wpAny (model prog w) A (eval (.ListComp elt [⟨.Name x px, iter, [], 0⟩] scope pos) env) Q E s := by
  refine wpAny_ListComp_free (fun _ => true) (fun v y => ∀ i t, v = .int i t → ∃ t', y = .int (f i) t') hclos hcell hkind hnames hx ?_ hs
  refine wpAny_mono h (fun xv s₁ h₁ => ?_) fun _ _ e => e
  obtain ⟨l, us, U, n, src, hl, hu, hU, ht, hQ⟩ := h₁.out
  refine src E _ fun h' tk I k hI hit => ?_
  have hlI : l ≠ I := fun e => by subst e; rw [hl] at hI; cases hI
  have hl' : h'.IsList l us.toArray := ⟨_, k _ _ hl, rfl, n, rfl⟩
  have up : ∀ {s₃ : Shared}, (∀ b o, b ∉ [I] → h'.get? b = some o → s₃.heap.get? b = some o) → Stays s₁.heap s₃.heap := fun hk b o e => hk b o (fun hb => by rw [List.mem_singleton] at hb; subst hb; rw [hI] at e; cases e) (k b o e)
  have none_of : ∀ C, h'.objs.size ≤ C → s₁.heap.get? C = none := fun C hC => by
    cases q : s₁.heap.get? C with
    | none => rfl
    | some o => exact absurd (Heap.lt_size (k _ _ q)) (Nat.not_lt.mpr hC)
  have intOf : ∀ {i : Nat} {v : Value}, us.toArray[i]? = some v → ∃ j t, v = Value.int j t ∧ j ∈ U := fun {i v} hv => by
    have hv' : us[i]? = some v := by simpa using hv
    obtain ⟨t, e⟩ := PyProof.Rows.IntsAre.int_at hu i v hv'
    refine ⟨_, t, e, ?_⟩
    have hi : i < us.length := (List.getElem?_eq_some_iff.mp hv').1
    have hi' : i < U.length := by rw [← hu.length]; exact hi
    rw [List.getD_eq_getElem?_getD, List.getElem?_eq_getElem hi']
    exact List.getElem_mem hi'
  refine ⟨I, [I, l], [I], us.toArray.size, _, _, rfl, Walks.list hh I l hlI us.toArray, by rw [List.size_toArray, hu.length, sizeLine_eq]; omega, ⟨hit, hl'⟩, fun b hb => ?_, ⟨?_, ?_⟩, ?_⟩
  · simp only [List.mem_cons, List.not_mem_nil, or_false] at hb
    rcases hb with rfl | rfl
    · obtain ⟨_, e, _⟩ := hit; exact Heap.lt_size e
    · exact Heap.lt_size (k _ _ hl)
  · intro C i v s₃ m₃ E' hC hv hn hm hk htk
    obtain ⟨j, t, rfl, hj⟩ := intOf hv
    exact wpAny_tests_nil ⟨rfl, s₃.heap, s₃.toks, rfl, fun _ _ e => e⟩
  · intro C i v s₃ m₃ E' hC hv hpv hn hm hk htk
    obtain ⟨j, t, rfl, hj⟩ := intOf hv
    refine wpAny_mono (ht C j t s₃ m₃ E' hj (none_of C hC) hn hm (up hk)) (fun y s₄ hy => ⟨fun i' t' e => ?_, hy.2⟩) fun _ _ z => z
    cases e; exact hy.1
  · intro D h2 tk2 ys vs hD hD2 hpl hlen hvs hF hk
    have e1 : vs = us := by
      refine List.ext_getElem? fun j => ?_
      cases q : vs[j]? with
      | none =>
        rw [List.getElem?_eq_none_iff] at q
        rw [eq_comm, List.getElem?_eq_none_iff]
        rw [hlen] at q; simpa using q
      | some v => have := hvs j v q; simpa using this.symm
    have e0 : vs.filter (fun _ => true) = vs := List.filter_eq_self.mpr fun _ _ => rfl
    rw [e0, e1] at hF
    have hi := paired_map hF hu
    obtain ⟨k2, hk2⟩ := hpl
    refine hQ D h2 tk2 ys.toList k2 ?_ (by simpa using hk2) hi fun b o e => hk b o (fun hb => by rw [List.mem_singleton] at hb; subst hb; rw [hI] at e; cases e) (k b o e)
    cases q : s₁.heap.get? D with
    | none => rfl
    | some o => have := k _ _ q; rw [hD] at this; cases this
end

section
variable {prog : Program} {w : World} {A : Around} {h₀ : Heap} {L : Addr} {m : Str → Option Value} {env : Env} {elt : Expr} {x : Str} {scope : Scope} {cl : List (Str × Addr)} {s : Shared} {S : List (Addr × Obj) → Prop} {P : Nat → Value → Prop} {Fin : List Value → List (Addr × Obj) → Prop} {news : List (Addr × Obj)}
theorem rest_rel {n : Nat} (J : Nat → List Value → List (Addr × Obj) → Prop) (h0 : J 0 [] news)
    (turn : ∀ i ys nws v I oI C oC D m₂ h tk (E' : Value → Shared → Prop), i < n → J i ys nws → P i v → LCg.NsObj oC m₂ → m₂ x = some v → Fr h₀ L h m → News h₀ L h ((I, oI) :: (C, oC) :: (D, LCg.lst ys) :: nws) → LCg.Off3 I C D nws → ((@Ne Nat I C) ∧ (@Ne Nat I D) ∧ (@Ne Nat C D)) →
      wpAny (model prog w) A (eval elt (compEnvC scope cl C env)) (LCg.CompEnd h₀ L m { s with heap := h, toks := tk } I oI C oC D (LCg.lst ys) S (fun y news' => J (i + 1) (ys ++ [y]) news')) E' { s with heap := h, toks := tk })
    (fin : ∀ ys nws, J n ys nws → Fin ys nws) : LCg.CompRest prog w A h₀ L m env elt x scope cl s S P Fin n 0 [] news := by
  have key : ∀ (j i : Nat) (ys : List Value) (nws : List (Addr × Obj)), i + j = n → J i ys nws → LCg.CompRest prog w A h₀ L m env elt x scope cl s S P Fin j i ys nws := by
    intro j
    induction j with
    | zero => intro i ys nws hi hJ; exact LCg.CompRest.zero (fin ys nws ((by omega : i = n) ▸ hJ))
    | succ j ih =>
      intro i ys nws hi hJ
      refine LCg.CompRest.succ ?_
      intro v I oI C oC D m₂ h tk E' hv hC hx F N off ne
      refine wpAny_mono (turn i ys nws v I oI C oC D m₂ h tk E' (by omega) hJ hv hC hx F N off ne) (fun y s₂ hq => ?_) fun _ _ e => e
      obtain ⟨h', tk', nw, e, F', N', off', hS, hJ'⟩ := hq
      exact ⟨h', tk', nw, e, F', N', off', hS, ih (i + 1) _ nw (by omega) hJ'⟩
  exact key n 0 [] news (by omega) h0
end
end Mine

end

section
open PySem PySem.W PyProof.Rows PySem.Calls
namespace Mine
local macro_rules | `(tactic| walk_at "CompSrc") => `(tactic| refine Mine.halt_at ?_)
local macro_rules | `(tactic| walk_at "CompEnd") => `(tactic| refine Mine.halt_at ?_)
local macro_rules | `(tactic| walk_at "FinE") => `(tactic| refine Mine.halt_at ?_)
local macro_rules | `(tactic| walk_at "eval ListComp") => `(tactic| refine Mine.halt_at ?_)

def cutL (W : List Int) (k : Nat) : List Int := ((W.drop (7 * k)).take 7).map fun i => i.fmod 9
def rowL (W : List Int) (k : Nat) : List Int := if cutL W k = [] then [(k : Int), 3, (k : Int) + 4] else cutL W k

def RowsIn (W : List Int) (i : Nat) (ys : List Value) (more : List (Addr × Obj)) : Prop :=
  ys.length = i ∧ ∀ j, j < i → ∃ r us n, ys[j]? = some (.ref r) ∧ (r, liObj us n) ∈ more ∧ IntsAre us (rowL W j)

theorem RowsIn.snoc {W : List Int} {i : Nat} {ys : List Value} {more : List (Addr × Obj)} {r : Addr} {us : List Value} {n : Nat} (h : RowsIn W i ys more) (hu : IntsAre us (rowL W i)) : RowsIn W (i + 1) (ys ++ [.ref r]) ((r, liObj us n) :: more) := by
  refine ⟨by rw [List.length_append, h.1]; rfl, fun j hj => ?_⟩
  rcases Nat.lt_succ_iff_lt_or_eq.mp hj with q | q
  · obtain ⟨r', us', n', e1, e2, e3⟩ := h.2 j q
    exact ⟨r', us', n', by rw [List.getElem?_append_left (by rw [h.1]; exact q)]; exact e1, .tail _ e2, e3⟩
  · subst q
    exact ⟨r, us, n, by rw [List.getElem?_append_right (by rw [h.1]; exact Nat.le_refl _), h.1, Nat.sub_self]; rfl, .head _, hu⟩

theorem fn_set {h₀ : Heap} {L c : Addr} {m : Str → Option Value} {news : List (Addr × Obj)} {o o' : Obj} {h h' : Heap} (F : Fr h₀ L h m) (N : News h₀ L h news) (hc : (c, o) ∈ news) (k : KeepBut c h h') (hg : h'.get? c = some o') :
    Fr h₀ L h' m ∧ News h₀ L h' ((c, o') :: news.filter fun p => p.1 != c) := by
  have D := N _ hc
  obtain ⟨oL, es, ep, hL, r⟩ := F.ns
  refine ⟨⟨⟨oL, es, ep, k _ _ (Ne.symm D.2.1) hL, r⟩, fun b z q => k b z (fun e => ?_) (F.keep b z q), F.above⟩, fun p hp => ?_⟩
  · have := D.2.2; rw [← e, q] at this; cases this
  · rcases List.mem_cons.mp hp with rfl | hp
    · exact ⟨hg, D.2⟩
    · obtain ⟨hp, hq⟩ := List.mem_filter.mp hp
      simp only [bne_iff_ne] at hq
      exact ⟨k _ _ hq (N p hp).1, (N p hp).2⟩

theorem News.sub {h₀ : Heap} {L : Addr} {h : Heap} {news news' : List (Addr × Obj)} (N : News h₀ L h news) (s : ∀ p ∈ news', p ∈ news) : News h₀ L h news' := fun p hp => N p (s p hp)

theorem turn_end {g : Heap} {L : Addr} {m : Str → Option Value} {h' : Heap} {tk : Nat} {s₁ : Shared} {I C D y : Addr} {oI oC oD oy : Obj} {c3 c2 c1 : Addr × Obj} {more all : List (Addr × Obj)} {W : List Int} {i : Nat} {ys : List Value}
    (F : Fr g L h' m) (N : News g L h' all) (k1 : (I, oI) ∈ all) (k2 : (C, oC) ∈ all) (k3 : (D, oD) ∈ all) (k4 : c3 ∈ all) (k5 : c2 ∈ all) (k6 : c1 ∈ all) (k7 : (y, oy) ∈ all) (k8 : ∀ q ∈ more, q ∈ all) (off : LCg.Off3 I C D (c3 :: c2 :: c1 :: more)) (ny : y ≠ I ∧ y ≠ C ∧ y ≠ D)
    (hr : RowsIn W (i + 1) (ys ++ [.ref y]) ((y, oy) :: more)) :
    LCg.CompEnd g L m s₁ I oI C oC D oD (fun _ => True) (fun y news' => ∃ more, news' = c3 :: c2 :: c1 :: more ∧ RowsIn W (i + 1) (ys ++ [y]) more) (.ref y) { s₁ with heap := h', toks := tk } :=
  LCg.CompEnd.intro F N (c3 :: c2 :: c1 :: (y, oy) :: more) (fun q hq => by
    simp only [List.mem_cons] at hq
    rcases hq with rfl | rfl | rfl | rfl | rfl | rfl | rfl | hq
    · exact k1
    · exact k2
    · exact k3
    · exact k4
    · exact k5
    · exact k6
    · exact k7
    · exact k8 q hq) ⟨off.1, off.2.1, off.2.2.1, ny, off.2.2.2⟩ trivial ⟨_, rfl, hr⟩

theorem law_s0 {w : World} {s : Shared} {E : Value → Shared → Prop} {Q : Flow → Shared → Prop} {p : Program} {loose : List Str} {mean : ExcName → Option Value} {mg mb : Str → Option Value} {g : Heap} {L fa l0 : Addr} {cd : Value} {m : Str → Option Value} {oH oR oS : Obj} {vs : List Value} {W : List Int}
    (X : (hd.heap_39 w.params).In g) (T : Top p loose mean mg mb g) (F : Fr g L s.heap m) (N : News g L s.heap [(L + 1 + 1 + 1, oH), (L + 1 + 1, oR), (L + 1, oS)])
    (dH : oH.data = .cell none) (dR : oR.data = .cell none) (dS : oS.data = .cell (some (.ref l0))) (hL : g.IsList l0 vs.toArray) (hI : IntsAre vs W) (hW : W.length < 64)
    (hQ : ∀ h' tk more rl ys n oR', Fr g L h' m → News g L h' ((L + 1 + 1 + 1, oH) :: (L + 1 + 1, oR') :: (L + 1, oS) :: more) → oR'.data = .cell (some (.ref rl)) → (rl, liObj ys n) ∈ more → RowsIn W 3 ys more → Q .next { s with heap := h', toks := tk }) :
    wpAny (model PySem.Challenge.rw_ae5044_01.row.prog w) (callerA.deeper (lawEnv w.params L fa cd)) (exec (lawSt w.params 0) (lawEnv w.params L fa cd)) Q E s := by
  rw [lawSt_eq]
  refine law_at (G := fun body scope => wpAny (model PySem.Challenge.rw_ae5044_01.row.prog w) (callerA.deeper (envOfC "law" scope L fa cd)) (exec (body.getD 0 (.Pass default)) (envOfC "law" scope L fa cd)) Q E s) (by rfl) ?_
  revert X; k_fill; intro X
  simp only [List.getD_cons_zero]
  k_steps
  refine ⟨LCg.ListComp_U (F₀ := F) (by with_unfolding_all rfl) (by decide) (by rfl) (by decide) (by rfl) ?_⟩
  k_steps
  rename_i h1 tk1 t1 u1 v1 hr1 F1 N1 k1
  refine ⟨LCg.CompSrc.range rfl F1 N1 hr1 (by decide) (n := 3) (by rfl) (by rw [sizeLine_eq]; omega) ?_⟩
  intro g'
  refine rest_rel (fun i ys nws => ∃ more, nws = (L + 1 + 1 + 1, oH) :: (L + 1 + 1, oR) :: (L + 1, oS) :: more ∧ RowsIn W i ys more) ⟨[], rfl, rfl, fun j h => absurd h (Nat.not_lt_zero _)⟩ ?_ ?_
  · rintro i ys _ v I oI C oC D m₂ h tk E' hi ⟨more, rfl, hrows⟩ ⟨t, rfl⟩ hC hx F2 N2 off ne
    simp only [Int.zero_add] at hx ⊢
    k_steps
    refine ⟨comp_map (cl := []) (fun i => i.fmod 9) rfl (by with_unfolding_all rfl) (by decide) rfl (by decide) rfl ?_⟩
    k_steps
    rename_i DS ws h3 F3 N3 hi3 _ _ l3
    have eU : List.take (min (7 * (i : Int) + 7).toNat W.length - (7 * (i : Int)).toNat) (List.drop (7 * (i : Int)).toNat W) = (W.drop (7 * i)).take 7 := by
      have e1 : (7 * (i : Int)).toNat = 7 * i := by omega
      have e2 : (7 * (i : Int) + 7).toNat = 7 * i + 7 := by omega
      rw [e1, e2]
      refine List.take_eq_take_iff.mpr ?_
      rw [List.length_drop]; omega
    rw [eU] at hi3
    refine ⟨DS, ws, _, 0, SrcN.list (items := ws.toArray) ⟨_, N3.get (.head _), rfl, 0, rfl⟩, N3.get (.head _), hi3, by rw [List.length_take]; omega, ?_, ?_⟩
    · intro C2 v2 tk2 s₃ m₃ E2 _ hC2 hn2 hm2 k2
      refine wpAny_BinOp (wpAny_Name (wpAny_loadName_local (by rfl) (by rfl) hn2 hm2 (wpAny_Constant_int (PyProof.Rows.mod_int (by decide) ⟨⟨_, rfl⟩, ?_⟩))) (by decide))
      exact ⟨s₃.heap, _, rfl, fun _ _ e => e⟩
    intro D4 h4 tk4 zs k4n hD4 hg4 hzs k4
    obtain ⟨F4, N4, ne4⟩ := news_new F3 N3 k4 hD4 hg4
    dsimp only
    k_steps
    have hzl : zs.length ≤ 7 := by rw [hzs.length, List.length_map, List.length_take]; omega
    refine wpAny_truthy_list (items := zs.toArray) ⟨_, N4.get (.head _), rfl, k4n, rfl⟩ ?_ ?_
    · rw [List.size_toArray]; omega
    have ecut : zs = [] ↔ cutL W i = [] := by rw [← List.length_eq_zero_iff, ← List.length_eq_zero_iff, hzs.length]; rfl
    by_cases hz : zs = []
    · subst hz
      rw [if_neg (by decide)]
      have eR : rowL W i = [(i : Int), 3, (i : Int) + 4] := if_pos (ecut.mp rfl)
      k_steps
      rename_i l5 h5 F5 N5 l5lt
      refine ⟨turn_end F5 N5 (by simp) (by simp) (by simp) (by simp) (by simp) (by simp) (.head _) (fun q hq => by simp [hq]) off ⟨?_, ?_, ?_⟩ (RowsIn.snoc (us := [.int (i : Int) _, .int 3 _, .int ((i : Int) + 4) _]) (n := 0) hrows ?_)⟩
      · exact Nat.ne_of_gt l5lt.2.2.1
      · exact Nat.ne_of_gt l5lt.2.2.2.1
      · exact Nat.ne_of_gt l5lt.2.2.2.2.1
      · rw [eR]; exact .cons _ _ (.cons _ _ (.cons _ _ .nil))
    · rw [if_pos (by simpa using hz)]
      have eR : rowL W i = cutL W i := if_neg fun e => hz (ecut.mpr e)
      refine turn_end F4 N4 (by simp) (by simp) (by simp) (by simp) (by simp) (by simp) (.head _) (fun q hq => by simp [hq]) off ⟨?_, ?_, ?_⟩ (RowsIn.snoc hrows (by rw [eR]; exact hzs))
      · exact (ne4 _ (.tail _ (.head _))).symm
      · exact (ne4 _ (.tail _ (.tail _ (.head _)))).symm
      · exact (ne4 _ (.tail _ (.tail _ (.tail _ (.head _))))).symm
  · rintro ys _ ⟨more, rfl, hrows⟩
    unfold LCg.FinE
    intro D5 h5 tk5 F5 N5 off5
    dsimp only
    refine wpAny_storeName_cell rfl rfl rfl ⟨oR, N5.get (.tail _ (.tail _ (.head _))), dR⟩ fun h6 hv6 hs6 => ?_
    obtain ⟨oR', hoR', dR'⟩ := hv6
    obtain ⟨F6, N6⟩ := fn_set F5 N5 (c := L + 1 + 1) (o := oR) (.tail _ (.tail _ (.head _))) (fun b z hb e => hs6.extBut b z hb e) hoR'
    have n1 : D5 ≠ L + 1 + 1 := off5.2.1.symm
    have n2 : L + 1 + 1 + 1 ≠ L + 1 + 1 := Nat.succ_ne_self _
    have n3 : L + 1 ≠ L + 1 + 1 := (Nat.succ_ne_self _).symm
    refine hQ h6 _ ((D5, LCg.lst ys) :: more.filter fun p => p.1 != L + 1 + 1) D5 ys _ oR' F6 (Mine.News.sub N6 fun p hp => ?_) dR' (.head _) ⟨hrows.1, fun j hj => ?_⟩
    · simp only [List.mem_cons] at hp
      rcases hp with rfl | rfl | rfl | rfl | hp
      · exact .tail _ (List.mem_filter.mpr ⟨by simp, by simp [n2]⟩)
      · exact .head _
      · exact .tail _ (List.mem_filter.mpr ⟨by simp, by simp [n3]⟩)
      · exact .tail _ (List.mem_filter.mpr ⟨by simp, by simp [n1]⟩)
      · obtain ⟨hp, hq⟩ := List.mem_filter.mp hp
        exact .tail _ (List.mem_filter.mpr ⟨by simp [hp], hq⟩)
    · obtain ⟨r, us, n, e1, e2, e3⟩ := hrows.2 j hj
      refine ⟨r, us, n, e1, .tail _ (List.mem_filter.mpr ⟨e2, ?_⟩), e3⟩
      simp only [bne_iff_ne]
      intro e
      have a := N5.get (.tail _ (.tail _ (.head _)))
      have b := N5.get (.tail _ (.tail _ (.tail _ (.tail _ e2))))
      try dsimp only at a b
      rw [e, a] at b; cases b; cases dR
end Mine

end

section
open PySem PySem.W PyProof.Rows PySem.Calls
namespace Mine
local macro_rules | `(tactic| walk_at "CompSrc") => `(tactic| refine Mine.halt_at ?_)
local macro_rules | `(tactic| walk_at "CompEnd") => `(tactic| refine Mine.halt_at ?_)
local macro_rules | `(tactic| walk_at "FinE") => `(tactic| refine Mine.halt_at ?_)
local macro_rules | `(tactic| walk_at "eval ListComp") => `(tactic| refine Mine.halt_at ?_)
local macro_rules | `(tactic| walk_at "call ref") => `(tactic| refine Mine.halt_at ?_)

/-- an OrderedSet that the ledger tells of -/
def OSn (news : List (Addr × Obj)) (x : Addr) (V : List Int) : Prop :=
  ∃ d l es ep t vs n, (x, osD (osO d l) es ep t) ∈ news ∧ (d, dictOf [] 0) ∈ news ∧ (l, liObj vs n) ∈ news ∧ SetIs es t V ∧ IntsAre vs V
theorem OSn.osx {g : Heap} {L : Addr} {h : Heap} {news : List (Addr × Obj)} {x : Addr} {V : List Int} (O : OSn news x V) (N : News g L h news) : ∃ d l, OSx h x d l V ∧ g.get? x = none ∧ g.get? l = none := by
  obtain ⟨d, l, es, ep, t, vs, n, a, b, c, e, f⟩ := O
  exact ⟨d, l, ⟨⟨es, ep, t, N.get a, e⟩, N.get b, vs, n, N.get c, f⟩, N.fresh a, N.fresh c⟩
theorem OSn.mono {news news' : List (Addr × Obj)} {x : Addr} {V : List Int} (O : OSn news x V) (s : ∀ p ∈ news, p ∈ news') : OSn news' x V := by
  obtain ⟨d, l, es, ep, t, vs, n, a, b, c, e, f⟩ := O
  exact ⟨d, l, es, ep, t, vs, n, s _ a, s _ b, s _ c, e, f⟩

/-- a new OrderedSet enters the ledger -/
theorem news_os {g : Heap} {L : Addr} {m : Str → Option Value} {h h' : Heap} {news : List (Addr × Obj)} {x d l : Addr} {V : List Int} (F : Fr g L h m) (N : News g L h news) (k : Stays h h') (fx : h.get? x = none) (fd : h.get? d = none) (fl : h.get? l = none) (O : OSx h' x d l V) :
    Fr g L h' m ∧ ∃ ox ol, News g L h' ((x, ox) :: (d, dictOf [] 0) :: (l, ol) :: news) ∧ (∀ tl, OSn ((x, ox) :: (d, dictOf [] 0) :: (l, ol) :: tl) x V) ∧ (∀ p ∈ news, p.1 ≠ x ∧ p.1 ≠ d ∧ p.1 ≠ l) := by
  obtain ⟨⟨es, ep, t, hx, H⟩, hd, vs, n, hl, hi⟩ := O
  obtain ⟨F1, N1, l1⟩ := news_new F N k fl hl
  obtain ⟨_, N2, l2⟩ := news_new F N k fd hd
  obtain ⟨_, N3, l3⟩ := news_new F N k fx hx
  refine ⟨F1, _, _, fun p hp => ?_, fun tl => ⟨d, l, es, ep, t, vs, n, .head _, .tail _ (.head _), .tail _ (.tail _ (.head _)), H, hi⟩, fun p hp => ⟨l3 p hp, l2 p hp, l1 p hp⟩⟩
  rcases List.mem_cons.mp hp with rfl | hp
  · exact N3 _ (.head _)
  · rcases List.mem_cons.mp hp with rfl | hp
    · exact N2 _ (.head _)
    · exact N1 p hp

theorem sub_mid {α : Type} {a b c d e f x y z q : α} {r : List α} (h : q ∈ a :: b :: c :: d :: e :: f :: x :: y :: z :: r) : q ∈ x :: y :: z :: a :: b :: c :: d :: e :: f :: r := by
  simp only [List.mem_cons] at h ⊢
  rcases h with h | h | h | h | h | h | h | h | h | h <;> simp [h]

theorem fmod9 (i : Int) : Sm (i.fmod 9) := by
  have a := Int.fmod_nonneg_of_pos i (show (0 : Int) < 9 by decide)
  have b := Int.fmod_lt_of_pos i (show (0 : Int) < 9 by decide)
  exact ⟨a, by omega⟩
theorem rowL_small (W : List Int) {k : Nat} (hk : k < 3) : ∀ i ∈ rowL W k, Sm i := by
  intro i hi
  unfold rowL at hi
  split at hi
  · simp only [List.mem_cons, List.not_mem_nil, or_false] at hi
    rcases hi with rfl | rfl | rfl <;> exact ⟨by omega, by omega⟩
  · unfold cutL at hi
    obtain ⟨j, _, rfl⟩ := List.mem_map.mp hi
    exact fmod9 j
theorem rowL_len (W : List Int) (k : Nat) : (rowL W k).length ≤ 7 := by
  unfold rowL; split
  · simp
  · unfold cutL; rw [List.length_map, List.length_take]; omega

theorem law_s1 {w : World} {s : Shared} {E : Value → Shared → Prop} {Q : Flow → Shared → Prop} {p : Program} {loose : List Str} {mean : ExcName → Option Value} {mg mb : Str → Option Value} {g : Heap} {L fa rl : Addr} {cd : Value} {m : Str → Option Value} {oH oR oS : Obj} {ys : List Value} {n : Nat} {W : List Int} {more : List (Addr × Obj)}
    (X : (hd.heap_39 w.params).In g) (T : Top p loose mean mg mb g) (F : Fr g L s.heap m) (N : News g L s.heap ((L + 1 + 1 + 1, oH) :: (L + 1 + 1, oR) :: (L + 1, oS) :: more))
    (dR : oR.data = .cell (some (.ref rl))) (hrl : (rl, liObj ys n) ∈ more) (hrows : RowsIn W 3 ys more)
    (hQ : ∀ h' tk more' a b c, Fr g L h' (fun y => if y = "c" then some (.ref c) else if y = "b" then some (.ref b) else if y = "a" then some (.ref a) else m y) → News g L h' ((L + 1 + 1 + 1, oH) :: (L + 1 + 1, oR) :: (L + 1, oS) :: more') → (∀ q ∈ more, q ∈ more') →
      OSn more' a (uniqL (rowL W 0)) → OSn more' b (uniqL (rowL W 1)) → OSn more' c (uniqL (rowL W 2)) → Q .next { s with heap := h', toks := tk }) :
    wpAny (model PySem.Challenge.rw_ae5044_01.row.prog w) (callerA.deeper (lawEnv w.params L fa cd)) (exec (lawSt w.params 1) (lawEnv w.params L fa cd)) Q E s := by
  rw [lawSt_eq]
  refine law_at (G := fun body scope => wpAny (model PySem.Challenge.rw_ae5044_01.row.prog w) (callerA.deeper (envOfC "law" scope L fa cd)) (exec (body.getD 1 (.Pass default)) (envOfC "law" scope L fa cd)) Q E s) (by rfl) ?_
  revert X; k_fill; intro X
  simp only [List.getD_cons_zero, List.getD_cons_succ]
  k_steps
  refine ⟨LCg.ListComp_U (F₀ := F) (by with_unfolding_all rfl) (by decide) (by rfl) (by decide) (by rfl) ?_⟩
  k_steps
  refine ⟨LCg.CompSrc.ledger rfl F N (its := ys.toArray) (k := n) (by simp [hrl]) (by rw [List.size_toArray, hrows.1, sizeLine_eq]; omega) ?_⟩
  intro g'
  refine rest_rel (fun i out nws => ∃ more', nws = (L + 1 + 1 + 1, oH) :: (L + 1 + 1, oR) :: (L + 1, oS) :: more' ∧ (∀ q ∈ more, q ∈ more') ∧ out.length = i ∧ ∀ j, j < i → ∃ x, out[j]? = some (.ref x) ∧ OSn more' x (uniqL (rowL W j)))
    ⟨more, rfl, fun _ h => h, rfl, fun j h => absurd h (Nat.not_lt_zero _)⟩ ?_ ?_
  · rintro i out _ v I oI C oC D m₂ h tk E' hi ⟨more', rfl, hsub, hlen, hout⟩ hv hC hx F2 N2 off ne
    rw [List.size_toArray, hrows.1] at hi
    obtain ⟨r, us, nr, e1, e2, e3⟩ := hrows.2 i hi
    obtain rfl : v = .ref r := by
      have : ys[i]? = some v := by simpa using hv
      rw [e1] at this; exact (Option.some.inj this).symm
    k_steps
    have hr2 := N2.get (.tail _ (.tail _ (.tail _ (.tail _ (.tail _ (.tail _ (hsub _ e2)))))))
    refine ⟨wpAny_call (make_row (s := ⟨h, _, _, _, _⟩) (X.keeps F2.keep) (T.keeps F2.keep) (show callerA.depth + 1 + 4 < recursionLimit by decide) rfl hr2 e3 (by have := rowL_len W i; omega) (rowL_small W hi) fun h5 tk5 x d l' k5 fx fd fl O5 => ?_)⟩
    obtain ⟨F6, ox, ol, N6, OS, ne6⟩ := news_os F2 N2 k5 fx fd fl O5
    have q1 := ne6 (I, oI) (.head _)
    have q2 := ne6 (C, oC) (.tail _ (.head _))
    have q3 := ne6 (D, LCg.lst out) (.tail _ (.tail _ (.head _)))
    refine LCg.CompEnd.intro F6 N6 ((L + 1 + 1 + 1, oH) :: (L + 1 + 1, oR) :: (L + 1, oS) :: (x, ox) :: (d, dictOf [] 0) :: (l', ol) :: more') (fun q hq => ?_)
      ⟨off.1, off.2.1, off.2.2.1, ⟨q1.1.symm, q2.1.symm, q3.1.symm⟩, ⟨q1.2.1.symm, q2.2.1.symm, q3.2.1.symm⟩, ⟨q1.2.2.symm, q2.2.2.symm, q3.2.2.symm⟩, off.2.2.2⟩
      (.inr ⟨_, .tail _ (.tail _ (.tail _ (.tail _ (.tail _ (.tail _ (hsub _ hrl)))))), rfl, n, rfl⟩) ⟨_, rfl, fun q hq => .tail _ (.tail _ (.tail _ (hsub q hq))), by rw [List.length_append, hlen]; rfl, fun j hj => ?_⟩
    · exact sub_mid hq
    · rcases Nat.lt_succ_iff_lt_or_eq.mp hj with q | q
      · obtain ⟨x', f1, f2⟩ := hout j q
        exact ⟨x', by rw [List.getElem?_append_left (by rw [hlen]; exact q)]; exact f1, f2.mono fun q hq => .tail _ (.tail _ (.tail _ hq))⟩
      · subst q
        exact ⟨x, by rw [List.getElem?_append_right (by rw [hlen]; exact Nat.le_refl _), hlen, Nat.sub_self]; rfl, OS _⟩
  · rintro out _ ⟨more', rfl, hsub, hlen, hout⟩
    unfold LCg.FinE
    intro D5 h5 tk5 F5 N5 off5
    dsimp only
    rw [List.size_toArray, hrows.1] at hlen hout
    obtain ⟨x0, f0, O0⟩ := hout 0 (by omega)
    obtain ⟨x1, f1, O1⟩ := hout 1 (by omega)
    obtain ⟨x2, f2, O2⟩ := hout 2 (by omega)
    obtain rfl : out = [.ref x0, .ref x1, .ref x2] := by
      match out, hlen with
      | [a, b, c], _ =>
        simp at f0 f1 f2
        rw [f0, f1, f2]
    k_steps
    rename_i h9 F9 N9
    exact hQ h9 _ more' x0 x1 x2 F9 (Mine.News.sub N9 fun p hp => .tail _ hp) hsub O0 O1 O2
end Mine

end

section
open PySem PySem.W PyProof.Rows PySem.Calls
namespace Mine

/-- an expression over the named OrderedSets, and the list of its value -/
inductive Den (tbl : List (Str × Addr × List Int)) : Expr → List Int → Prop
  | name {x : Str} {a : Addr} {V : List Int} (pos : Pos) : (x, a, V) ∈ tbl → Den tbl (.Name x pos) V
  | or {e e' : Expr} {V W : List Int} (pos : Pos) : Den tbl e V → Den tbl e' W → Den tbl (.BinOp e .BitOr e' pos) (unionL V W)
  | and {e e' : Expr} {V W : List Int} (pos : Pos) : Den tbl e V → Den tbl e' W → Den tbl (.BinOp e .BitAnd e' pos) (interL V W)
  | sub {e e' : Expr} {V W : List Int} (pos : Pos) : Den tbl e V → Den tbl e' W → Den tbl (.BinOp e .Sub e' pos) (diffL V W)
  | xor {e e' : Expr} {V W : List Int} (pos : Pos) : Den tbl e V → Den tbl e' W → Den tbl (.BinOp e .BitXor e' pos) (xorL V W)

structure Bound (env : Env) (L : Addr) (m : Str → Option Value) (tbl : List (Str × Addr × List Int)) : Prop where
  loc : env.locals = L
  kind : env.scope.kind = .function
  names : ∀ q ∈ tbl, env.kindOf q.1 = some .local ∧ (q.1 == ("__debug__" : Str)) = false ∧ m q.1 = some (.ref q.2.1)

section
variable {w : World} {A : Around} {E : Value → Shared → Prop} {p : Program} {loose : List Str} {mean : ExcName → Option Value} {mg mb : Str → Option Value} {g : Heap} {L : Addr} {m : Str → Option Value} {tbl : List (Str × Addr × List Int)} {env : Env}

theorem Den.eval (X : (hd.heap_39 w.params).In g) (T : Top p loose mean mg mb g) (hh : A.handled = none) (hr : A.depth + 4 < recursionLimit) (B : Bound env L m tbl) {e : Expr} {V : List Int} (D : Den tbl e V) :
    ∀ (s : Shared) (news : List (Addr × Obj)) (Q : Value → Shared → Prop), Fr g L s.heap m → News g L s.heap news → (∀ q ∈ tbl, OSn news q.2.1 q.2.2) →
      (∀ h' tk news' x, Fr g L h' m → News g L h' news' → (∀ q ∈ news, q ∈ news') → OSn news' x V → Q (.ref x) { s with heap := h', toks := tk }) →
      wpAny (model PySem.Challenge.rw_ae5044_01.row.prog w) A (PySem.eval e env) Q E s := by
  have step : ∀ {op : Operator} {f : Addr} {opL : List Int → List Int → List Int}, OpAt w 4 f opL → findIn (hd.heap_39 w.params) (.ref 232) (PySem.dunder op.info.2) = some (some (.ref f)) → isFn (hd.heap_39 w.params) (.ref f) = true →
      ∀ {e e' : Expr} {V W : List Int} {pos : Pos},
      (∀ (s : Shared) (news : List (Addr × Obj)) (Q : Value → Shared → Prop), Fr g L s.heap m → News g L s.heap news → (∀ q ∈ tbl, OSn news q.2.1 q.2.2) →
        (∀ h' tk news' x, Fr g L h' m → News g L h' news' → (∀ q ∈ news, q ∈ news') → OSn news' x V → Q (.ref x) { s with heap := h', toks := tk }) →
        wpAny (model PySem.Challenge.rw_ae5044_01.row.prog w) A (PySem.eval e env) Q E s) →
      (∀ (s : Shared) (news : List (Addr × Obj)) (Q : Value → Shared → Prop), Fr g L s.heap m → News g L s.heap news → (∀ q ∈ tbl, OSn news q.2.1 q.2.2) →
        (∀ h' tk news' x, Fr g L h' m → News g L h' news' → (∀ q ∈ news, q ∈ news') → OSn news' x W → Q (.ref x) { s with heap := h', toks := tk }) →
        wpAny (model PySem.Challenge.rw_ae5044_01.row.prog w) A (PySem.eval e' env) Q E s) →
      ∀ (s : Shared) (news : List (Addr × Obj)) (Q : Value → Shared → Prop), Fr g L s.heap m → News g L s.heap news → (∀ q ∈ tbl, OSn news q.2.1 q.2.2) →
        (∀ h' tk news' x, Fr g L h' m → News g L h' news' → (∀ q ∈ news, q ∈ news') → OSn news' x (opL V W) → Q (.ref x) { s with heap := h', toks := tk }) →
        wpAny (model PySem.Challenge.rw_ae5044_01.row.prog w) A (PySem.eval (.BinOp e op e' pos) env) Q E s := by
    intro op f opL hop hs hf e e' V W pos ih1 ih2 s news Q F N hO hQ
    refine wpAny_BinOp (ih1 s news _ F N hO fun h1 tk1 news1 x F1 N1 s1 O1 => ?_)
    refine ih2 ⟨h1, _, _, _, _⟩ news1 _ F1 N1 (fun q hq => (hO q hq).mono s1) fun h2 tk2 news2 y F2 N2 s2 O2 => ?_
    obtain ⟨d, l, Ox, _⟩ := (O1.mono s2).osx N2
    obtain ⟨dy, ly, Oy, _⟩ := O2.osx N2
    refine os_binop (s := ⟨h2, _, _, _, _⟩) F2 X T hh hr hop hs hf Ox Oy fun h3 tk3 r dr lr k3 a b c O3 => ?_
    obtain ⟨F3, ox, ol, N3, OS, _⟩ := news_os F2 N2 k3 a b c O3
    exact hQ h3 tk3 _ r F3 N3 (fun q hq => .tail _ (.tail _ (.tail _ (s2 q (s1 q hq))))) (OS _)
  induction D with
  | name pos hm =>
    intro s news Q F N hO hQ
    obtain ⟨h1, h2, h3⟩ := B.names _ hm
    have F' := F.ns
    rw [← B.loc] at F'
    exact wpAny_Name (wpAny_loadName_local B.kind h1 F' h3 (hQ s.heap s.toks news _ F N (fun q h => h) (hO _ hm))) h2
  | or pos _ _ ih1 ih2 => exact step (or_op w) (by kernel_rfl) (by kernel_rfl) ih1 ih2
  | and pos _ _ ih1 ih2 => exact step (and_op w) (by kernel_rfl) (by kernel_rfl) ih1 ih2
  | sub pos _ _ ih1 ih2 => exact step (sub_op w) (by kernel_rfl) (by kernel_rfl) ih1 ih2
  | xor pos _ _ ih1 ih2 => exact step (xr_op w) (by kernel_rfl) (by kernel_rfl) ih1 ih2

/-- a list of pairs of such expressions -/
inductive DenPairs (tbl : List (Str × Addr × List Int)) : List Expr → List (List Int × List Int) → Prop
  | nil : DenPairs tbl [] []
  | cons {e e' : Expr} {V W : List Int} {es : List Expr} {ps : List (List Int × List Int)} (k : Nat) (pos : Pos) : Den tbl e V → Den tbl e' W → DenPairs tbl es ps → DenPairs tbl (.Tuple [e, e'] k pos :: es) ((V, W) :: ps)

/-- the tuples of two OrderedSets that the ledger tells of -/
inductive PairsAt (news : List (Addr × Obj)) : List Value → List (List Int × List Int) → Prop
  | nil : PairsAt news [] []
  | cons {t x y : Addr} {V W : List Int} {vs : List Value} {ps : List (List Int × List Int)} : (t, tuObj [.ref x, .ref y]) ∈ news → OSn news x V → OSn news y W → PairsAt news vs ps → PairsAt news (.ref t :: vs) ((V, W) :: ps)
theorem PairsAt.mono {news news' : List (Addr × Obj)} {vs : List Value} {ps : List (List Int × List Int)} (s : ∀ q ∈ news, q ∈ news') (h : PairsAt news vs ps) : PairsAt news' vs ps := by
  induction h with
  | nil => exact .nil
  | cons a b c _ ih => exact .cons (s _ a) (b.mono s) (c.mono s) ih
theorem PairsAt.length {news : List (Addr × Obj)} {vs : List Value} {ps : List (List Int × List Int)} (h : PairsAt news vs ps) : vs.length = ps.length := by
  induction h with
  | nil => rfl
  | cons _ _ _ _ ih => rw [List.length_cons, List.length_cons, ih]

theorem nameless {e : Expr} {V : List Int} (D : Den tbl e V) : starEach [e] env = [(false, PySem.eval e env)] := by cases D <;> rfl
theorem starDen {e : Expr} {V : List Int} (D : Den tbl e V) (rest : List Expr) : starEach (e :: rest) env = (false, PySem.eval e env) :: starEach rest env := by cases D <;> rfl

theorem DenPairs.eval (X : (hd.heap_39 w.params).In g) (T : Top p loose mean mg mb g) (hh : A.handled = none) (hr : A.depth + 4 < recursionLimit) (B : Bound env L m tbl) {pos : Pos} {es : List Expr} {ps : List (List Int × List Int)} (D : DenPairs tbl es ps) :
    ∀ (s : Shared) (news : List (Addr × Obj)) (Q : List Value → Shared → Prop), Fr g L s.heap m → News g L s.heap news → (∀ q ∈ tbl, OSn news q.2.1 q.2.2) →
      (∀ h' tk news' vs, Fr g L h' m → News g L h' news' → (∀ q ∈ news, q ∈ news') → PairsAt news' vs ps → Q vs { s with heap := h', toks := tk }) →
      wpAny (model PySem.Challenge.rw_ae5044_01.row.prog w) A (spliced (backTo pos (starEach es env))) Q E s := by
  induction D with
  | nil => intro s news Q F N hO hQ; exact wpAny_items_nil (hQ s.heap s.toks news [] F N (fun q h => h) .nil)
  | cons k tp d1 d2 _ ih =>
    intro s news Q F N hO hQ
    refine wpAny_items_cons (wpAny_Tuple_spliced (wpAny_items_cons (d1.eval X T hh hr B s news _ F N hO fun h1 tk1 news1 x F1 N1 s1 O1 => ?_) (starDen d1 _)))
    refine wpAny_items_cons (d2.eval X T hh hr B ⟨h1, _, _, _, _⟩ news1 _ F1 N1 (fun q hq => (hO q hq).mono s1) fun h2 tk2 news2 y F2 N2 s2 O2 => wpAny_items_nil ?_) (starDen d2 _)
    refine ⟨by rw [sizeLine_eq]; simp, ?_⟩
    have F3 := F2.push (tuObj [.ref x, .ref y])
    have N3 := N2.push F2 (tuObj [.ref x, .ref y])
    refine ih ⟨_, _, _, _, _⟩ _ _ F3 N3 (fun q hq => (hO q hq).mono fun z hz => .tail _ (s2 z (s1 z hz))) fun h4 tk4 news4 vs F4 N4 s4 P4 => ?_
    exact hQ h4 tk4 news4 _ F4 N4 (fun q hq => s4 q (.tail _ (s2 q (s1 q hq)))) (.cons (s4 _ (.head _)) ((O1.mono s2).mono fun z hz => s4 z (.tail _ hz)) (O2.mono fun z hz => s4 z (.tail _ hz)) P4)
end
end Mine

end

section
open PySem PySem.W PyProof.Rows PySem.Calls
namespace Mine
local macro_rules | `(tactic| walk_at "eval List") => `(tactic| refine Mine.halt_at ?_)

def alikeL (A B C : List Int) : List (List Int × List Int) :=
  [(unionL (unionL A B) C, unionL A (unionL B C)), (interL (interL A B) C, interL A (interL B C)), (unionL A A, A), (interL A A, A), (interL A (unionL A B), A), (unionL A (interL A B), A),
   (diffL A (unionL B C), diffL (diffL A B) C), (diffL A B, diffL A (interL A B)), (xorL A B, unionL (diffL A B) (diffL B A)), (interL A (diffL B C), diffL (interL A B) C), (diffL (unionL A B) C, unionL (diffL A C) (diffL B C)),
   (unionL (interL A B) (diffL A B), unionL (interL A B) (xorL A (interL A B)))]
def setsL (A B C : List Int) : List (List Int × List Int) :=
  [(xorL (xorL A B) C, xorL A (xorL B C)), (xorL (xorL A B) B, A), (interL A (unionL B C), unionL (interL A B) (interL A C)), (unionL A (interL B C), interL (unionL A B) (unionL A C)), (diffL A (interL B C), unionL (diffL A B) (diffL A C)),
   (interL A (xorL B C), xorL (interL A B) (interL A C)), (xorL A B, diffL (unionL A B) (interL A B)), (unionL A B, unionL B A), (interL A B, interL B A)]

theorem law_s2 {w : World} {s : Shared} {E : Value → Shared → Prop} {Q : Flow → Shared → Prop} {p : Program} {loose : List Str} {mean : ExcName → Option Value} {mg mb : Str → Option Value} {g : Heap} {L fa a b c : Addr} {cd : Value} {m : Str → Option Value} {c3 c2 c1 : Addr × Obj} {more : List (Addr × Obj)} {VA VB VC : List Int}
    (X : (hd.heap_39 w.params).In g) (T : Top p loose mean mg mb g) (F : Fr g L s.heap m) (N : News g L s.heap (c3 :: c2 :: c1 :: more))
    (ma : m "a" = some (.ref a)) (mb' : m "b" = some (.ref b)) (mc : m "c" = some (.ref c)) (Oa : OSn more a VA) (Ob : OSn more b VB) (Oc : OSn more c VC)
    (hQ : ∀ h' tk more' D vs, Fr g L h' (fun y => if y = "alike" then some (.ref D) else m y) → News g L h' (c3 :: c2 :: c1 :: more') → (∀ q ∈ more, q ∈ more') → (D, liObj vs 0) ∈ more' → PairsAt more' vs (alikeL VA VB VC) → Q .next { s with heap := h', toks := tk }) :
    wpAny (model PySem.Challenge.rw_ae5044_01.row.prog w) (callerA.deeper (lawEnv w.params L fa cd)) (exec (lawSt w.params 2) (lawEnv w.params L fa cd)) Q E s := by
  rw [lawSt_eq]
  refine law_at (G := fun body scope => wpAny (model PySem.Challenge.rw_ae5044_01.row.prog w) (callerA.deeper (envOfC "law" scope L fa cd)) (exec (body.getD 2 (.Pass default)) (envOfC "law" scope L fa cd)) Q E s) (by rfl) ?_
  have X0 := X
  revert X; k_fill; intro X
  simp only [List.getD_cons_zero, List.getD_cons_succ]
  k_steps
  refine ⟨wpAny_List_spliced (DenPairs.eval (tbl := [("a", a, VA), ("b", b, VB), ("c", c, VC)]) (ps := alikeL VA VB VC) X0 T rfl (show callerA.depth + 1 + 4 < recursionLimit by decide) ⟨rfl, rfl, ?_⟩ ?_ s _ _ F N ?_ fun h1 tk1 news1 vs F1 N1 s1 P1 => ⟨?_, ?_⟩)⟩
  · intro q hq
    simp only [List.mem_cons, List.not_mem_nil, or_false] at hq
    rcases hq with rfl | rfl | rfl
    · exact ⟨rfl, (show (("a" : Str) == ("__debug__" : Str)) = false by decide), ma⟩
    · exact ⟨rfl, (show (("b" : Str) == ("__debug__" : Str)) = false by decide), mb'⟩
    · exact ⟨rfl, (show (("c" : Str) == ("__debug__" : Str)) = false by decide), mc⟩
  · unfold alikeL
    repeat (first | exact .nil | exact .name _ (.head _) | exact .name _ (.tail _ (.head _)) | exact .name _ (.tail _ (.tail _ (.head _))) | refine .cons _ _ ?_ ?_ ?_ | refine .or _ ?_ ?_ | refine .and _ ?_ ?_ | refine .sub _ ?_ ?_ | refine .xor _ ?_ ?_)
  · have up : ∀ q ∈ more, q ∈ c3 :: c2 :: c1 :: more := fun q hq => .tail _ (.tail _ (.tail _ hq))
    intro q hq
    simp only [List.mem_cons, List.not_mem_nil, or_false] at hq
    rcases hq with rfl | rfl | rfl
    · exact Oa.mono up
    · exact Ob.mono up
    · exact Oc.mono up
  · rw [P1.length, sizeLine_eq]; simp [alikeL]
  · have F2 := F1.push (liObj vs 0)
    have N2 := N1.push F1 (liObj vs 0)
    generalize h1.objs.size = D at N2 ⊢
    dsimp only
    generalize h1.push (liObj vs 0) = h2 at F2 N2 ⊢
    k_steps
    rename_i h9 F9 N9
    refine hQ h9 _ ((D, liObj vs 0) :: news1) D vs F9 (Mine.News.sub N9 fun q hq => ?_) (fun q hq => .tail _ (s1 q (.tail _ (.tail _ (.tail _ hq))))) (.head _) (P1.mono fun q hq => .tail _ hq)
    simp only [List.mem_cons] at hq
    rcases hq with rfl | rfl | rfl | rfl | hq
    · exact .tail _ (s1 _ (.head _))
    · exact .tail _ (s1 _ (.tail _ (.head _)))
    · exact .tail _ (s1 _ (.tail _ (.tail _ (.head _))))
    · exact .head _
    · exact .tail _ hq

theorem law_s4 {w : World} {s : Shared} {E : Value → Shared → Prop} {Q : Flow → Shared → Prop} {p : Program} {loose : List Str} {mean : ExcName → Option Value} {mg mb : Str → Option Value} {g : Heap} {L fa a b c : Addr} {cd : Value} {m : Str → Option Value} {c3 c2 c1 : Addr × Obj} {more : List (Addr × Obj)} {VA VB VC : List Int}
    (X : (hd.heap_39 w.params).In g) (T : Top p loose mean mg mb g) (F : Fr g L s.heap m) (N : News g L s.heap (c3 :: c2 :: c1 :: more))
    (ma : m "a" = some (.ref a)) (mb' : m "b" = some (.ref b)) (mc : m "c" = some (.ref c)) (Oa : OSn more a VA) (Ob : OSn more b VB) (Oc : OSn more c VC)
    (hQ : ∀ h' tk more' D vs, Fr g L h' (fun y => if y = "sets" then some (.ref D) else m y) → News g L h' (c3 :: c2 :: c1 :: more') → (∀ q ∈ more, q ∈ more') → (D, liObj vs 0) ∈ more' → PairsAt more' vs (setsL VA VB VC) → Q .next { s with heap := h', toks := tk }) :
    wpAny (model PySem.Challenge.rw_ae5044_01.row.prog w) (callerA.deeper (lawEnv w.params L fa cd)) (exec (lawSt w.params 4) (lawEnv w.params L fa cd)) Q E s := by
  rw [lawSt_eq]
  refine law_at (G := fun body scope => wpAny (model PySem.Challenge.rw_ae5044_01.row.prog w) (callerA.deeper (envOfC "law" scope L fa cd)) (exec (body.getD 4 (.Pass default)) (envOfC "law" scope L fa cd)) Q E s) (by rfl) ?_
  have X0 := X
  revert X; k_fill; intro X
  simp only [List.getD_cons_zero, List.getD_cons_succ]
  k_steps
  refine ⟨wpAny_List_spliced (DenPairs.eval (tbl := [("a", a, VA), ("b", b, VB), ("c", c, VC)]) (ps := setsL VA VB VC) X0 T rfl (show callerA.depth + 1 + 4 < recursionLimit by decide) ⟨rfl, rfl, ?_⟩ ?_ s _ _ F N ?_ fun h1 tk1 news1 vs F1 N1 s1 P1 => ⟨?_, ?_⟩)⟩
  · intro q hq
    simp only [List.mem_cons, List.not_mem_nil, or_false] at hq
    rcases hq with rfl | rfl | rfl
    · exact ⟨rfl, (show (("a" : Str) == ("__debug__" : Str)) = false by decide), ma⟩
    · exact ⟨rfl, (show (("b" : Str) == ("__debug__" : Str)) = false by decide), mb'⟩
    · exact ⟨rfl, (show (("c" : Str) == ("__debug__" : Str)) = false by decide), mc⟩
  · unfold setsL
    repeat (first | exact .nil | exact .name _ (.head _) | exact .name _ (.tail _ (.head _)) | exact .name _ (.tail _ (.tail _ (.head _))) | refine .cons _ _ ?_ ?_ ?_ | refine .or _ ?_ ?_ | refine .and _ ?_ ?_ | refine .sub _ ?_ ?_ | refine .xor _ ?_ ?_)
  · have up : ∀ q ∈ more, q ∈ c3 :: c2 :: c1 :: more := fun q hq => .tail _ (.tail _ (.tail _ hq))
    intro q hq
    simp only [List.mem_cons, List.not_mem_nil, or_false] at hq
    rcases hq with rfl | rfl | rfl
    · exact Oa.mono up
    · exact Ob.mono up
    · exact Oc.mono up
  · rw [P1.length, sizeLine_eq]; simp [setsL]
  · have F2 := F1.push (liObj vs 0)
    have N2 := N1.push F1 (liObj vs 0)
    generalize h1.objs.size = D at N2 ⊢
    dsimp only
    generalize h1.push (liObj vs 0) = h2 at F2 N2 ⊢
    k_steps
    rename_i h9 F9 N9
    refine hQ h9 _ ((D, liObj vs 0) :: news1) D vs F9 (Mine.News.sub N9 fun q hq => ?_) (fun q hq => .tail _ (s1 q (.tail _ (.tail _ (.tail _ hq))))) (.head _) (P1.mono fun q hq => .tail _ hq)
    simp only [List.mem_cons] at hq
    rcases hq with rfl | rfl | rfl | rfl | hq
    · exact .tail _ (s1 _ (.head _))
    · exact .tail _ (s1 _ (.tail _ (.head _)))
    · exact .tail _ (s1 _ (.tail _ (.tail _ (.head _))))
    · exact .head _
    · exact .tail _ hq

end Mine

end

section
open PySem PySem.W PyProof.Rows PySem.Calls
namespace Mine
section
variable {prog : Program} {w : World} {A : Around} {E : Value → Shared → Prop} {s : Shared}

/-- `[ELT for a, b in LIST if TEST]` where no test holds: the empty list -/
theorem comp_pairs_none {env : Env} {a b : Str} {pa pb tp pos : Pos} {kk : Nat} {c elt iter : Expr} {scope : Scope} {cl : List (Str × Addr)} {Q : Value → Shared → Prop}
    (hh : A.handled = none)
    (hclos : closureFor scope env = pure cl) (hcell : ∀ y ∈ scope.names, y.2 ≠ .cell) (hkind : scope.kind = .function)
    (hnames : ∀ y ∈ scope.names, y.2 = .local → scope.names.lookup y.1 = some .local) (hxa : scope.names.lookup a = some .local) (hxb : scope.names.lookup b = some .local) (hab : a ≠ b)
    (h : wpAny (model prog w) A (PySem.eval iter env) (fun xv s₁ => Halt (∃ l items n, xv = .ref l ∧ s₁.heap.get? l = some (liObj items n) ∧ items.length ≤ 1000 ∧
      (∀ (i : Nat) (v : Value), items[i]? = some v → ∃ T x y, v = Value.ref T ∧ s₁.heap.get? T = some (tuObj [x, y]) ∧
        (∀ C s₃ m₃ E', s₁.heap.get? C = none → s₃.heap.Ns C m₃ → m₃ a = some x → m₃ b = some y → Stays s₁.heap s₃.heap →
          wpAny (model prog w) A (isTrue c (compEnvC scope cl C env) (PySem.eval c (compEnvC scope cl C env))) (fun ok s₄ => ok = false ∧ Keeps s₃ s₄) E' s₃)) ∧
      (∀ D h' tk, s₁.heap.get? D = none → h'.get? D = some (liObj [] 0) → Stays s₁.heap h' → Q (.ref D) { s₁ with heap := h', toks := tk }))) E s)
    (hs : ∀ x, foldedSetIterable iter env x = pure x := by intro _; rfl) :
    wpAny (model prog w) A (PySem.eval (.ListComp elt [⟨.Tuple [.Name a pa, .Name b pb] kk tp, iter, [c], 0⟩] scope pos) env) Q E s := by
  rw [eval_ListComp]
  refine wpAny_comprehension_free (use := none) rfl hs hclos hkind hnames (wpAny_mono h (fun xv s₁ h₁ => ?_) fun _ _ e => e)
  obtain ⟨l, items, n, rfl, hl, hsz, ht, hQ⟩ := h₁.out
  refine wpAny_pyIter_list ⟨_, hl, rfl, n, rfl⟩ ?_
  have k1 := Stays.push (h := s₁.heap) { cls := .type "list_iterator", data := .fields #[.ref l, .int 0 0] }
  have hI1 := Heap.get?_push_size s₁.heap (o := { cls := .type "list_iterator", data := .fields #[.ref l, .int 0 0] }) rfl
  have fI := get_size s₁.heap
  have e1 : (s₁.heap.push { cls := .type "list_iterator", data := .fields #[.ref l, .int 0 0] }).objs.size = s₁.heap.objs.size + 1 := Heap.size_push _ _
  generalize hI : s₁.heap.objs.size = I at hI1 fI e1 ⊢
  generalize s₁.heap.push { cls := .type "list_iterator", data := .fields #[.ref l, .int 0 0] } = H1 at k1 hI1 e1 ⊢
  refine wpAny_newObj_type (hd := by size_fits) (wpAny_newFunctionEnv hcell (by intro y hy; simp at hy) (fun h₁ hns₁ hsb₁ => ?_) hkind)
  dsimp only at hns₁ hsb₁ ⊢
  have k2 := Stays.push (h := H1) { cls := .type "list", dict := none, data := .seq ([] : List Value).toArray }
  have hD2 := Heap.get?_push_size H1 (o := { cls := .type "list", dict := none, data := .seq ([] : List Value).toArray }) rfl
  have e2 : (H1.push { cls := .type "list", dict := none, data := .seq ([] : List Value).toArray }).objs.size = H1.objs.size + 1 := Heap.size_push _ _
  rw [e1] at e2 hD2
  rw [e1]
  generalize H1.push { cls := .type "list", dict := none, data := .seq ([] : List Value).toArray } = H2 at k2 hD2 e2 hns₁ hsb₁ ⊢
  rw [e2] at hns₁ hsb₁ ⊢
  have hDC : I + 1 ≠ I + 1 + 1 := (Nat.succ_ne_self _).symm
  have hIC : I ≠ I + 1 + 1 := by omega
  have hDI : I + 1 ≠ I := Nat.succ_ne_self _
  have fre : ∀ k, I ≤ k → s₁.heap.get? k = none := fun k hk => by
    cases q : s₁.heap.get? k with
    | none => rfl
    | some o => have := Heap.lt_size q; rw [hI] at this; exact absurd this (Nat.not_lt.mpr hk)
  have fD := fre (I + 1) (Nat.le_succ _)
  have fC := fre (I + 1 + 1) (by omega)
  have old : ∀ {z o}, s₁.heap.get? z = some o → z ≠ I ∧ z ≠ I + 1 ∧ z ≠ I + 1 + 1 := fun {z o} e => ⟨(fun q => by rw [q, fI] at e; cases e), (fun q => by rw [q, fD] at e; cases e), (fun q => by rw [q, fC] at e; cases e)⟩
  have k3 : Stays s₁.heap h₁ := fun z o e => hsb₁.extBut z o (old e).2.2 (Heap.get?_push_of_some _ (k2 _ _ (k1 _ _ e)))
  have hI3 : h₁.IsListIter I l 0 := ⟨_, hsb₁.extBut _ _ hIC (Heap.get?_push_of_some _ (k2 _ _ hI1)), rfl, rfl⟩
  have hD3 : h₁.get? (I + 1) = some (liObj [] 0) := hsb₁.extBut _ _ hDC (Heap.get?_push_of_some _ hD2)
  have hlI : l ≠ I := (old hl).1
  refine codeAny_compStart_list (?_ : codeAny _ _ _ _ _) (wpAny_pyIter_listiter hI3 (?_ : codeAny _ _ _ _ _)) <;>
  · refine kct_loop (fun k s' => ∃ h' tk m' i, s' = { s₁ with heap := h', toks := tk } ∧ h'.IsListIter I l i ∧ h'.Ns (I + 1 + 1) m' ∧ h'.get? (I + 1) = some (liObj [] 0) ∧ Stays s₁.heap h' ∧ i ≤ items.length ∧ k = items.length + 1 - i) ?_ (items.length + 1)
      ⟨h₁, _, _, 0, rfl, hI3, hns₁, hD3, k3, Nat.zero_le _, rfl⟩
    rintro k s' ⟨h', tk, m', i, rfl, hit, hns, hD, ks, hi, rfl⟩
    have hl' : h'.IsList l items.toArray := ⟨_, ks _ _ hl, rfl, n, rfl⟩
    cases hv : items[i]? with
    | none =>
      refine wpAny_pyNext_list_end (by exact hh) hit hl' (by simpa using hv) fun h5 he5 => ?_
      refine ⟨m', hns.extBut he5 hIC.symm, fun h6 hs6 => hQ (I + 1) h6 _ fD (hs6.extBut _ _ hDC (he5 _ _ hDI hD)) fun z o e => hs6.extBut z o (old e).2.2 (he5 z o (old e).1 (ks z o e))⟩
    | some v =>
      have hlt : i < items.length := (List.getElem?_eq_some_iff.mp hv).1
      obtain ⟨T, x, y, rfl, hT, test⟩ := ht i v hv
      refine wpAny_pyNext_list_item hit hl' (x := .ref T) (by simpa using hv) fun h5 hit5 hs5 => ?_
      refine wpAny_letOwnedTupleGo_listiter hit5 ?_
      have k5 : Stays s₁.heap h5 := fun z o e => hs5.extBut z o (old e).1 (ks z o e)
      have hT5 : h5.IsTuple T #[x, y] := ⟨_, k5 _ _ hT, rfl, 0, rfl⟩
      refine wpAny_assign_Tuple (by exact hh) hT5 rfl rfl fun h6 he6 => ?_
      have lt6 : ∀ {z o}, h5.get? z = some o → h6.get? z = some o := fun {z o} e => he6 z o (ne_size e) e
      have hn6 : h6.Ns (I + 1 + 1) m' := (hns.sameBut hs5 (Ne.symm hIC)).keeps fun z o e => lt6 e
      have p6 : ∀ nm v, (relabel scope env).names.lookup nm = some .local → ∀ {s' : Shared} {mm : Str → Option Value} {Q' : Unit → Shared → Prop} {E' : Value → Shared → Prop}, s'.heap.Ns (I + 1 + 1) mm →
          (∀ h'' tk, h''.Ns (I + 1 + 1) (fun y => if y = nm then some v else mm y) → Heap.SameBut (I + 1 + 1) s'.heap h'' → Q' () { s' with heap := h'', toks := tk }) →
          ∀ ps, wpAny (model prog w) A (assign (.Name nm ps) (compEnvC scope cl (I + 1 + 1) env) v) Q' E' s' := by
        intro nm v hloc s' mm Q' E' hn hq ps
        exact wpAny_assign_Name (wpAny_storeName_local (env := compEnvC scope cl (I + 1 + 1) env) hloc hn (fun h'' hn'' hs'' => hq h'' _ hn'' hs'') (by simp [compEnvC, relabel, hkind]))
      refine wpAny_assignInOrder_more (p6 a x (lookup_relabel_local hxa) hn6 (fun h7 tk7 hn7 hs7 => ?_) pa)
      refine wpAny_assignInOrder_more (p6 b y (lookup_relabel_local hxb) hn7 (fun h8 tk8 hn8 hs8 => wpAny_assignInOrder_none ?_) pb)
      have k8 : Stays s₁.heap h8 := fun z o e => hs8.extBut z o (old e).2.2 (hs7.extBut z o (old e).2.2 (lt6 (k5 z o e)))
      refine wpAny_mono (test (I + 1 + 1) { s₁ with heap := h8, toks := tk8 } _ _ fC hn8 (by rw [if_neg hab, if_pos rfl]) (by rw [if_pos rfl]) k8) (fun ok s₄ h4 => ?_) fun _ _ z => z
      obtain ⟨rfl, h9, tk9, rfl, k9⟩ := h4
      simp only [Bool.false_eq_true, if_false]
      refine ⟨items.length + 1 - (i + 1), by omega, h9, tk9, _, i + 1, rfl, ?_, hn8.keeps k9, ?_, k8.trans k9, hlt, rfl⟩
      · exact ((((hit5.at fun o e => lt6 e).extBut hs7.extBut hIC).extBut hs8.extBut hIC).at fun o e => k9 _ _ e)
      · exact k9 _ _ (hs8.extBut _ _ hDC (hs7.extBut _ _ hDC (lt6 (hs5.extBut _ _ hDI hD))))
end
end Mine

end

section
open PySem PySem.W PyProof.Rows PySem.Calls
namespace Mine
section
variable {w : World} {A : Around} {E : Value → Shared → Prop} {s : Shared} {p : Program} {loose : List Str} {mean : ExcName → Option Value} {mg mb : Str → Option Value} {g : Heap} {L : Addr} {m : Str → Option Value} {x d l y dy ly : Addr} {V W : List Int}

theorem eval_call1 {M : Model} {env : Env} {f : Str} {arg : Expr} {pf pos : Pos} {fv : Value} {Q : Value → Shared → Prop} (hfn : ∀ {Q' : Value → Shared → Prop}, Q' fv s → wpAny M A (PySem.eval (.Name f pf) env) Q' E s) (hm : keeperOf fv = pure .machine)
    (h : wpAny M A (PySem.eval arg env) (fun v s₂ => wpAny M A (call fv [v]) Q E s₂) E s) (he : starEach [arg] env = [(false, PySem.eval arg env)] := by rfl) :
    wpAny M A (PySem.eval (.Call (.Name f pf) [arg] [] pos) env) Q E s := by
  show wpAny M A (do callWith pos (← PySem.eval (.Name f pf) env) [] (backTo pos (starEach [arg] env)) (backToKw pos (keywordEach [] env))) Q E s
  refine wpAny_bind (hfn ?_)
  rw [he]
  refine callWith_of (P := fun _ => True) rfl (fun _ _ => ⟨.machine, .inr (.inl rfl), Looks.of_pure hm⟩) ?_
  exact evalArgs_plain (Calls.spliced_cons (wpAny_mono h (fun v s₂ h₂ => Calls.spliced_nil ⟨trivial, h₂⟩) fun _ _ z => z))

theorem ld_name {env : Env} {scope : Scope} {cl : List (Str × Addr)} {C : Addr} {f : Str} {pf : Pos} {fv : Value} {h₀ : Heap} {M : Model} (X : (hd.heap_39 w.params).In g) (T : Top p loose mean mg mb g) (F : Fr g L h₀ m) (k : Stays h₀ s.heap)
    (e : nsIn (hd.heap_39 w.params) mainGlobals f = some none) (hv : bootBuiltins f = some fv) (hn : f ≠ "__name__") (hg : env.globals = mainGlobals) (hb : env.builtins = builtinsNs) (hk : (compEnvC scope cl C env).scope.kind = .function) (hx : (compEnvC scope cl C env).kindOf f = some .globalImplicit) (hd' : (f == ("__debug__" : Str)) = false)
    {Q' : Value → Shared → Prop} (q : Q' fv s) : wpAny M A (PySem.eval (.Name f pf) (compEnvC scope cl C env)) Q' E s :=
  LCgL.ld_built (F.keeps k) X T e hv hn q hg hb hk hx hd'

theorem ld_loc {env : Env} {nm : Str} {pn : Pos} {v : Value} {mm : Str → Option Value} {M : Model} (hk : env.scope.kind = .function) (hx : env.kindOf nm = some .local) (hn : s.heap.Ns env.locals mm) (hm : mm nm = some v) (hd' : (nm == ("__debug__" : Str)) = false)
    {Q' : Value → Shared → Prop} (q : Q' v s) : wpAny M A (PySem.eval (.Name nm pn) env) Q' E s := wpAny_Name (wpAny_loadName_local hk hx hn hm q) hd'

/-- the two tests of the pairs: the first asks for lists, the second for lengths -/
theorem test_lists {env : Env} {scope : Scope} {cl : List (Str × Addr)} {C : Addr} {h₀ : Heap} {m₃ : Str → Option Value} {E' : Value → Shared → Prop} {p1 p2 p3 p4 p5 p6 p7 q1 q2 q3 q4 q5 q6 q7 q8 q9 q0 : Pos}
    (X : (hd.heap_39 w.params).In g) (T : Top p loose mean mg mb g) (F : Fr g L h₀ m) (hh : A.handled = none) (hr : A.depth + 2 < recursionLimit) (hu : A.units + 64 < cLine)
    (Ox : OSx h₀ x d l V) (Oy : OSx h₀ y dy ly V) (hn : s.heap.Ns C m₃) (mo : m₃ "one" = some (.ref x)) (mt : m₃ "other" = some (.ref y)) (k : Stays h₀ s.heap)
    (hg : env.globals = mainGlobals) (hb : env.builtins = builtinsNs) (hk : (compEnvC scope cl C env).scope.kind = .function) (h1 : (compEnvC scope cl C env).kindOf "one" = some .local) (h2 : (compEnvC scope cl C env).kindOf "other" = some .local)
    (h3 : (compEnvC scope cl C env).kindOf "list" = some .globalImplicit) (h4 : (compEnvC scope cl C env).kindOf "len" = some .globalImplicit) {wh : Sem Value} :
    wpAny (model PySem.Challenge.rw_ae5044_01.row.prog w) A (isTrue (.BoolOp .Or [.Compare (.Call (.Name "list" p1) [.Name "one" p2] [] p3) [.NotEq] [.Call (.Name "list" p4) [.Name "other" p5] [] p6] p7,
        .Compare (.Call (.Name "len" q1) [.Name "one" q2] [] q3) [.NotEq] [.Call (.Name "len" q4) [.Call (.Name "list" q5) [.Name "other" q6] [] q7] [] q8] q9] q0) (compEnvC scope cl C env) wh)
      (fun ok s₄ => ok = false ∧ Keeps s s₄) E' s := by
  have eL : nsIn (hd.heap_39 w.params) mainGlobals "list" = some none := by kernel_rfl
  have eN : nsIn (hd.heap_39 w.params) mainGlobals "len" = some none := by kernel_rfl
  have nm : ∀ {s' : Shared} {h' : Heap} {nn : Str} {v : Value}, Stays s.heap h' → (compEnvC scope cl C env).kindOf nn = some .local → m₃ nn = some v → (nn == ("__debug__" : Str)) = false → ∀ {s₁ : Shared}, s₁.heap = h' → ∀ {pn : Pos} {Q' E1 : Value → Shared → Prop}, Q' v s₁ →
      wpAny (model PySem.Challenge.rw_ae5044_01.row.prog w) A (PySem.eval (.Name nn pn) (compEnvC scope cl C env)) Q' E1 s₁ := by
    intro s' h' nn v kk hx hm hdb s₁ e pn Q' E1 q
    subst e
    exact ld_loc (env := compEnvC scope cl C env) hk hx (hn.keeps kk) hm hdb q
  have onel : ∀ {nn : Str} {z dz lz : Addr} {s₁ : Shared}, Stays s.heap s₁.heap → (compEnvC scope cl C env).kindOf nn = some .local → m₃ nn = some (.ref z) → (nn == ("__debug__" : Str)) = false → OSx h₀ z dz lz V →
      ∀ {pa pb pc : Pos} {Q' E1 : Value → Shared → Prop}, (∀ h' tk B vs n, IntsAre vs V → Stays s₁.heap h' → h'.get? B = some (liObj vs n) → Q' (.ref B) { s₁ with heap := h', toks := tk }) →
      wpAny (model PySem.Challenge.rw_ae5044_01.row.prog w) A (PySem.eval (.Call (.Name "list" pa) [.Name nn pb] [] pc) (compEnvC scope cl C env)) Q' E1 s₁ := by
    intro nn z dz lz s₁ kk hx hm hdb Oz pa pb pc Q' E1 q
    refine eval_call1 (fv := .type "list") (fun q => ld_name X T F (k.trans kk) eL (by kernel_rfl) (by decide) hg hb hk h3 (by decide) q) rfl ?_
    refine nm (s' := s₁) kk hx hm hdb rfl ?_
    exact list_os (F.keeps (k.trans kk)) X T hh (by omega) (Oz.stays (k.trans kk)) fun h' tk B vs n hi k' hB hg' => q h' tk B vs n hi k' hg'
  refine PyProof.Rows.isTrue_or (wpAny_isTrue_Compare1 (onel Stays.rfl' h1 mo (by decide) Ox fun h5 tk5 B1 vs1 n1 i1 k5 g5 => ?_))
  refine onel (s₁ := ⟨h5, _, _, _, _⟩) k5 h2 mt (by decide) Oy fun h6 tk6 B2 vs2 n2 i2 k6 g6 => ?_
  refine ke_ne_ints (s := ⟨h6, _, _, _, _⟩) ⟨_, k6 _ _ g5, rfl, n1, rfl⟩ ⟨_, g6, rfl, n2, rfl⟩ i1 i2 hu (wpAny_truthy_bool ?_)
  rw [decide_eq_true rfl]
  simp only [Bool.not_true, Bool.false_eq_true, if_false]
  have k56 : Stays s.heap h6 := Stays.trans k5 k6
  have kx := Stays.trans k k56
  refine PyProof.Rows.isTrue_or (wpAny_isTrue_Compare1 (eval_call1 (s := ⟨h6, _, _, _, _⟩) (fv := .builtin "len") (fun q => ld_name X T F kx eN (by kernel_rfl) (by decide) hg hb hk h4 (by decide) q) rfl ?_))
  refine nm (s' := s) k56 h1 mo (by decide) rfl ?_
  refine set_len (s := ⟨h6, _, _, _, _⟩) (Ox.stays kx).osat.set (os_cls (X.keeps (F.keeps kx).keep) rfl) (os_len (X.keeps (F.keeps kx).keep) rfl) ?_
  refine eval_call1 (s := ⟨h6, _, _, _, _⟩) (fv := .builtin "len") (fun q => ld_name X T F kx eN (by kernel_rfl) (by decide) hg hb hk h4 (by decide) q) rfl ?_
  refine onel (s₁ := ⟨h6, _, _, _, _⟩) k56 h2 mt (by decide) Oy fun h7 tk7 B3 vs3 n3 i3 k7 g7 => ?_
  have hl3 := i3.length
  have hV := Ox.len
  refine PyProof.Rows.len_list (s := ⟨h7, _, _, _, _⟩) (items := vs3.toArray) ⟨_, g7, rfl, n3, rfl⟩ (by rw [List.size_toArray]; omega) ?_
  refine P.ne_int (wpAny_truthy_bool ?_)
  rw [show ((V.length : Int) != ((vs3.toArray.size : Nat) : Int)) = false by rw [List.size_toArray, hl3]; simp]
  simp only [Bool.false_eq_true, if_false]
  exact PyProof.Rows.isTrue_or_nil ⟨rfl, h7, _, rfl, k56.trans k7⟩

theorem test_sorts {env : Env} {scope : Scope} {cl : List (Str × Addr)} {C : Addr} {h₀ : Heap} {m₃ : Str → Option Value} {E' : Value → Shared → Prop} {p1 p2 p3 p4 p5 p6 p7 q1 q2 q3 q4 q5 q6 q9 q0 : Pos}
    (X : (hd.heap_39 w.params).In g) (T : Top p loose mean mg mb g) (F : Fr g L h₀ m) (hh : A.handled = none) (hr : A.depth + 2 < recursionLimit) (hu : A.units + 64 < cLine) (hVW : V.Perm W)
    (Ox : OSx h₀ x d l V) (Oy : OSx h₀ y dy ly W) (hn : s.heap.Ns C m₃) (mo : m₃ "one" = some (.ref x)) (mt : m₃ "other" = some (.ref y)) (k : Stays h₀ s.heap)
    (hg : env.globals = mainGlobals) (hb : env.builtins = builtinsNs) (hk : (compEnvC scope cl C env).scope.kind = .function) (h1 : (compEnvC scope cl C env).kindOf "one" = some .local) (h2 : (compEnvC scope cl C env).kindOf "other" = some .local)
    (h3 : (compEnvC scope cl C env).kindOf "sorted" = some .globalImplicit) (h4 : (compEnvC scope cl C env).kindOf "len" = some .globalImplicit) {wh : Sem Value} :
    wpAny (model PySem.Challenge.rw_ae5044_01.row.prog w) A (isTrue (.BoolOp .Or [.Compare (.Call (.Name "sorted" p1) [.Name "one" p2] [] p3) [.NotEq] [.Call (.Name "sorted" p4) [.Name "other" p5] [] p6] p7,
        .Compare (.Call (.Name "len" q1) [.Name "one" q2] [] q3) [.NotEq] [.Call (.Name "len" q4) [.Name "other" q5] [] q6] q9] q0) (compEnvC scope cl C env) wh)
      (fun ok s₄ => ok = false ∧ Keeps s s₄) E' s := by
  have eL : nsIn (hd.heap_39 w.params) mainGlobals "sorted" = some none := by kernel_rfl
  have eN : nsIn (hd.heap_39 w.params) mainGlobals "len" = some none := by kernel_rfl
  have nm : ∀ {h' : Heap} {nn : Str} {v : Value}, Stays s.heap h' → (compEnvC scope cl C env).kindOf nn = some .local → m₃ nn = some v → (nn == ("__debug__" : Str)) = false → ∀ {s₁ : Shared}, s₁.heap = h' → ∀ {pn : Pos} {Q' E1 : Value → Shared → Prop}, Q' v s₁ →
      wpAny (model PySem.Challenge.rw_ae5044_01.row.prog w) A (PySem.eval (.Name nn pn) (compEnvC scope cl C env)) Q' E1 s₁ := by
    intro h' nn v kk hx hm hdb s₁ e pn Q' E1 q
    subst e
    exact ld_loc (env := compEnvC scope cl C env) hk hx (hn.keeps kk) hm hdb q
  have ones : ∀ {nn : Str} {z dz lz : Addr} {V : List Int} {s₁ : Shared}, Stays s.heap s₁.heap → (compEnvC scope cl C env).kindOf nn = some .local → m₃ nn = some (.ref z) → (nn == ("__debug__" : Str)) = false → OSx h₀ z dz lz V →
      ∀ {pa pb pc : Pos} {Q' E1 : Value → Shared → Prop}, (∀ h' tk B vs U n, IntsAre vs U → U.Perm V → U.Pairwise (· ≤ ·) → Stays s₁.heap h' → h'.get? B = some (liObj vs n) → Q' (.ref B) { s₁ with heap := h', toks := tk }) →
      wpAny (model PySem.Challenge.rw_ae5044_01.row.prog w) A (PySem.eval (.Call (.Name "sorted" pa) [.Name nn pb] [] pc) (compEnvC scope cl C env)) Q' E1 s₁ := by
    intro nn z dz lz V s₁ kk hx hm hdb Oz pa pb pc Q' E1 q
    refine eval_call1 (fv := .builtin "sorted") (fun q => ld_name X T F (k.trans kk) eL (by kernel_rfl) (by decide) hg hb hk h3 (by decide) q) rfl ?_
    refine nm kk hx hm hdb rfl ?_
    exact sorted_os (F.keeps (k.trans kk)) X T hh (by omega) (Oz.stays (k.trans kk)) fun h' tk B vs U n hi hp hw k' hB hg' => q h' tk B vs U n hi hp hw k' hg'
  refine PyProof.Rows.isTrue_or (wpAny_isTrue_Compare1 (ones Stays.rfl' h1 mo (by decide) Ox fun h5 tk5 B1 vs1 U1 n1 i1 pe1 pw1 k5 g5 => ?_))
  refine ones (s₁ := ⟨h5, _, _, _, _⟩) k5 h2 mt (by decide) Oy fun h6 tk6 B2 vs2 U2 n2 i2 pe2 pw2 k6 g6 => ?_
  have eU : U1 = U2 := List.Perm.eq_of_pairwise (le := fun a b => a ≤ b) (fun a b _ _ h1 h2 => Int.le_antisymm h1 h2) pw1 pw2 ((pe1.trans hVW).trans pe2.symm)
  subst eU
  refine ke_ne_ints (s := ⟨h6, _, _, _, _⟩) ⟨_, k6 _ _ g5, rfl, n1, rfl⟩ ⟨_, g6, rfl, n2, rfl⟩ i1 i2 hu (wpAny_truthy_bool ?_)
  rw [decide_eq_true rfl]
  simp only [Bool.not_true, Bool.false_eq_true, if_false]
  have k56 : Stays s.heap h6 := Stays.trans k5 k6
  have kx := Stays.trans k k56
  refine PyProof.Rows.isTrue_or (wpAny_isTrue_Compare1 (eval_call1 (s := ⟨h6, _, _, _, _⟩) (fv := .builtin "len") (fun q => ld_name X T F kx eN (by kernel_rfl) (by decide) hg hb hk h4 (by decide) q) rfl ?_))
  refine nm k56 h1 mo (by decide) rfl ?_
  refine set_len (s := ⟨h6, _, _, _, _⟩) (Ox.stays kx).osat.set (os_cls (X.keeps (F.keeps kx).keep) rfl) (os_len (X.keeps (F.keeps kx).keep) rfl) ?_
  refine eval_call1 (s := ⟨h6, _, _, _, _⟩) (fv := .builtin "len") (fun q => ld_name X T F kx eN (by kernel_rfl) (by decide) hg hb hk h4 (by decide) q) rfl ?_
  refine nm k56 h2 mt (by decide) rfl ?_
  refine set_len (s := ⟨h6, _, _, _, _⟩) (Oy.stays kx).osat.set (os_cls (X.keeps (F.keeps kx).keep) rfl) (os_len (X.keeps (F.keeps kx).keep) rfl) ?_
  refine P.ne_int (wpAny_truthy_bool ?_)
  rw [hVW.length_eq]
  simp only [bne_self_eq_false, Bool.false_eq_true, if_false]
  exact PyProof.Rows.isTrue_or_nil ⟨rfl, h6, _, rfl, k56⟩
end
end Mine

end

section
local macro_rules | `(tactic| walk_at "nowhere") => `(tactic| trivial)
open PySem PySem.W PyProof.Rows PySem.Calls
namespace Mine
local macro_rules | `(tactic| walk_at "eval ListComp") => `(tactic| refine Mine.halt_at ?_)

theorem PairsAt.at {news : List (Addr × Obj)} {vs : List Value} {ps : List (List Int × List Int)} (h : PairsAt news vs ps) : ∀ {i : Nat} {v : Value}, vs[i]? = some v → ∃ t x y V W, v = .ref t ∧ (t, tuObj [.ref x, .ref y]) ∈ news ∧ OSn news x V ∧ OSn news y W ∧ (V, W) ∈ ps := by
  induction h with
  | nil => intro i v h; simp at h
  | @cons t x y V W _ _ a b c _ ih =>
    intro i v h
    cases i with
    | zero => simp at h; subst h; exact ⟨t, x, y, V, W, rfl, a, b, c, .head _⟩
    | succ i =>
      obtain ⟨t', x', y', V', W', e1, e2, e3, e4, e5⟩ := ih (i := i) (v := v) (by simpa using h)
      exact ⟨t', x', y', V', W', e1, e2, e3, e4, .tail _ e5⟩

theorem law_s3 {w : World} {s : Shared} {E : Value → Shared → Prop} {Q : Flow → Shared → Prop} {p : Program} {loose : List Str} {mean : ExcName → Option Value} {mg mb : Str → Option Value} {g : Heap} {L fa D : Addr} {cd : Value} {m : Str → Option Value} {c3 c2 c1 : Addr × Obj} {more : List (Addr × Obj)} {vs : List Value} {ps : List (List Int × List Int)}
    (X : (hd.heap_39 w.params).In g) (T : Top p loose mean mg mb g) (F : Fr g L s.heap m) (N : News g L s.heap (c3 :: c2 :: c1 :: more))
    (mD : m "alike" = some (.ref D)) (hD : (D, liObj vs 0) ∈ more) (P : PairsAt more vs ps) (hvs : vs.length ≤ 1000) (hps : ∀ q ∈ ps, q.1 = q.2)
    (hQ : ∀ h' tk, Fr g L h' m → News g L h' (c3 :: c2 :: c1 :: more) → Q .next { s with heap := h', toks := tk }) :
    wpAny (model PySem.Challenge.rw_ae5044_01.row.prog w) (callerA.deeper (lawEnv w.params L fa cd)) (exec (lawSt w.params 3) (lawEnv w.params L fa cd)) Q E s := by
  rw [lawSt_eq]
  refine law_at (G := fun body scope => wpAny (model PySem.Challenge.rw_ae5044_01.row.prog w) (callerA.deeper (envOfC "law" scope L fa cd)) (exec (body.getD 3 (.Pass default)) (envOfC "law" scope L fa cd)) Q E s) (by rfl) ?_
  have X0 := X
  revert X; k_fill; intro X
  simp only [List.getD_cons_zero, List.getD_cons_succ]
  k_steps
  refine ⟨comp_pairs_none (cl := []) rfl (by with_unfolding_all rfl) (by decide) rfl (by decide) rfl rfl (by decide) ?_⟩
  have up : ∀ q ∈ more, q ∈ c3 :: c2 :: c1 :: more := fun q hq => .tail _ (.tail _ (.tail _ hq))
  refine wpAny_Name (wpAny_loadName_local rfl rfl F.ns mD ⟨D, vs, 0, rfl, N.get (up _ hD), hvs, fun i v hv => ?_, fun D' h' tk hD' hg' k' => ?_⟩) (by decide)
  · obtain ⟨t, x, y, V, W, rfl, e1, e2, e3, e4⟩ := P.at hv
    obtain rfl : V = W := hps _ e4
    obtain ⟨dx, lx, Ox, _⟩ := (e2.mono up).osx N
    obtain ⟨dy, ly, Oy, _⟩ := (e3.mono up).osx N
    refine ⟨t, .ref x, .ref y, rfl, N.get (up _ e1), fun C s₃ m₃ E' hC hn ho ht k => ?_⟩
    exact test_lists X0 T F rfl (show callerA.depth + 1 + 2 < recursionLimit by decide) (show callerA.units + 3 + 64 < cLine by decide) Ox Oy hn ho ht k rfl rfl rfl rfl rfl rfl rfl
  · obtain ⟨F1, N1, ne1⟩ := news_new F N k' hD' hg'
    k_steps
    rename_i h9 F9 N9 lt9
    exact hQ h9 _ F9 (Mine.News.sub N9 fun q hq => .tail _ (.tail _ hq))

theorem law_s5 {w : World} {s : Shared} {E : Value → Shared → Prop} {Q : Flow → Shared → Prop} {p : Program} {loose : List Str} {mean : ExcName → Option Value} {mg mb : Str → Option Value} {g : Heap} {L fa D : Addr} {cd : Value} {m : Str → Option Value} {c3 c2 c1 : Addr × Obj} {more : List (Addr × Obj)} {vs : List Value} {ps : List (List Int × List Int)}
    (X : (hd.heap_39 w.params).In g) (T : Top p loose mean mg mb g) (F : Fr g L s.heap m) (N : News g L s.heap (c3 :: c2 :: c1 :: more))
    (mD : m "sets" = some (.ref D)) (hD : (D, liObj vs 0) ∈ more) (P : PairsAt more vs ps) (hvs : vs.length ≤ 1000) (hps : ∀ q ∈ ps, q.1.Perm q.2)
    (hQ : ∀ h' tk, Fr g L h' m → News g L h' (c3 :: c2 :: c1 :: more) → Q .next { s with heap := h', toks := tk }) :
    wpAny (model PySem.Challenge.rw_ae5044_01.row.prog w) (callerA.deeper (lawEnv w.params L fa cd)) (exec (lawSt w.params 5) (lawEnv w.params L fa cd)) Q E s := by
  rw [lawSt_eq]
  refine law_at (G := fun body scope => wpAny (model PySem.Challenge.rw_ae5044_01.row.prog w) (callerA.deeper (envOfC "law" scope L fa cd)) (exec (body.getD 5 (.Pass default)) (envOfC "law" scope L fa cd)) Q E s) (by rfl) ?_
  have X0 := X
  revert X; k_fill; intro X
  simp only [List.getD_cons_zero, List.getD_cons_succ]
  k_steps
  refine ⟨comp_pairs_none (cl := []) rfl (by with_unfolding_all rfl) (by decide) rfl (by decide) rfl rfl (by decide) ?_⟩
  have up : ∀ q ∈ more, q ∈ c3 :: c2 :: c1 :: more := fun q hq => .tail _ (.tail _ (.tail _ hq))
  refine wpAny_Name (wpAny_loadName_local rfl rfl F.ns mD ⟨D, vs, 0, rfl, N.get (up _ hD), hvs, fun i v hv => ?_, fun D' h' tk hD' hg' k' => ?_⟩) (by decide)
  · obtain ⟨t, x, y, V, W, rfl, e1, e2, e3, e4⟩ := P.at hv
    have hVW : V.Perm W := hps _ e4
    obtain ⟨dx, lx, Ox, _⟩ := (e2.mono up).osx N
    obtain ⟨dy, ly, Oy, _⟩ := (e3.mono up).osx N
    refine ⟨t, .ref x, .ref y, rfl, N.get (up _ e1), fun C s₃ m₃ E' hC hn ho ht k => ?_⟩
    exact test_sorts X0 T F rfl (show callerA.depth + 1 + 2 < recursionLimit by decide) (show callerA.units + 3 + 64 < cLine by decide) hVW Ox Oy hn ho ht k rfl rfl rfl rfl rfl rfl rfl
  · obtain ⟨F1, N1, ne1⟩ := news_new F N k' hD' hg'
    k_steps
    rename_i h9 F9 N9 lt9
    exact hQ h9 _ F9 (Mine.News.sub N9 fun q hq => .tail _ (.tail _ hq))

end Mine

end

section
open PySem PySem.W PyProof.Rows PySem.Calls
namespace Mine
section
theorem foldl_addU_eq {W : List Int} (hW : W.Nodup) : ∀ {V : List Int}, W.foldl addU V = V ++ W.filter fun i => decide (i ∉ V) := by
  induction W with
  | nil => intro V; simp
  | cons w W ih =>
    intro V
    have h1 := (List.nodup_cons.mp hW).1
    rw [List.foldl_cons, ih (List.nodup_cons.mp hW).2, List.filter_cons]
    unfold addU
    by_cases hw : w ∈ V
    · rw [if_pos hw, if_neg (by simpa using hw)]
    · rw [if_neg hw, if_pos (by simpa using hw), List.append_assoc]
      congr 1
      show w :: _ = w :: _
      congr 1
      refine List.filter_congr fun i hi => ?_
      rw [decide_eq_decide, List.mem_append, List.mem_singleton]
      exact ⟨fun z q => z (.inl q), fun z q => q.elim z fun e => h1 (e ▸ hi)⟩
theorem cut_eq {V : List Int} {p q : Int → Prop} [DecidablePred p] [DecidablePred q] (h : ∀ i ∈ V, p i ↔ q i) : (V.filter fun i => decide (p i)) = V.filter fun i => decide (q i) :=
  List.filter_congr fun i hi => by rw [decide_eq_decide]; exact h i hi
theorem cut_all {V : List Int} {p : Int → Prop} [DecidablePred p] (h : ∀ i ∈ V, p i) : (V.filter fun i => decide (p i)) = V :=
  List.filter_eq_self.mpr fun i hi => by simpa using h i hi
theorem cut_none {V : List Int} {p : Int → Prop} [DecidablePred p] (h : ∀ i ∈ V, ¬ p i) : (V.filter fun i => decide (p i)) = [] :=
  List.filter_eq_nil_iff.mpr fun i hi => by simpa using h i hi
theorem cut_cut {V : List Int} {p q : Int → Prop} [DecidablePred p] [DecidablePred q] : ((V.filter fun i => decide (p i)).filter fun i => decide (q i)) = V.filter fun i => decide (p i ∧ q i) := by
  rw [List.filter_filter]; exact List.filter_congr fun i _ => by rw [← Bool.decide_and, decide_eq_decide]; exact And.comm
theorem mem_cut {V : List Int} {p : Int → Prop} [DecidablePred p] {i : Int} : i ∈ (V.filter fun i => decide (p i)) ↔ i ∈ V ∧ p i := by
  rw [List.mem_filter, decide_eq_true_iff]

theorem mem_unionL {V W : List Int} {i : Int} : i ∈ unionL V W ↔ i ∈ V ∨ i ∈ W := mem_foldl_addU
theorem mem_interL {V W : List Int} {i : Int} : i ∈ interL V W ↔ i ∈ V ∧ i ∈ W := mem_cut
theorem mem_diffL {V W : List Int} {i : Int} : i ∈ diffL V W ↔ i ∈ V ∧ i ∉ W := mem_cut
theorem mem_xorL {V W : List Int} {i : Int} : i ∈ xorL V W ↔ (i ∈ V ∧ i ∉ W) ∨ (i ∈ W ∧ i ∉ V) := by
  unfold xorL; rw [mem_unionL, mem_diffL, mem_diffL]
theorem nodup_unionL {V W : List Int} (h : V.Nodup) : (unionL V W).Nodup := nodup_foldl_addU h
theorem nodup_interL {V W : List Int} (h : V.Nodup) : (interL V W).Nodup := h.filter _
theorem nodup_diffL {V W : List Int} (h : V.Nodup) : (diffL V W).Nodup := h.filter _
theorem nodup_xorL {V W : List Int} (h : V.Nodup) : (xorL V W).Nodup := nodup_unionL (nodup_diffL h)
theorem unionL_eq {V W : List Int} (h : W.Nodup) : unionL V W = V ++ diffL W V := foldl_addU_eq h
theorem diff_append {V W C : List Int} : diffL (V ++ W) C = diffL V C ++ diffL W C := List.filter_append ..

theorem alike_ok {A B C : List Int} (hA : A.Nodup) (hB : B.Nodup) (hC : C.Nodup) : ∀ q ∈ alikeL A B C, q.1 = q.2 := by
  have eI : ∀ {V W W' : List Int}, (∀ i ∈ V, i ∈ W ↔ i ∈ W') → interL V W = interL V W' := fun h => cut_eq h
  have eD : ∀ {V W W' : List Int}, (∀ i ∈ V, i ∈ W ↔ i ∈ W') → diffL V W = diffL V W' := fun h => cut_eq fun i hi => not_congr (h i hi)
  intro q hq
  simp only [alikeL, List.mem_cons, List.not_mem_nil, or_false] at hq
  rcases hq with rfl | rfl | rfl | rfl | rfl | rfl | rfl | rfl | rfl | rfl | rfl | rfl
  · show unionL (unionL A B) C = unionL A (unionL B C)
    rw [unionL_eq hC, unionL_eq (nodup_unionL hB), unionL_eq hB, unionL_eq hC, diff_append, List.append_assoc]
    congr 2
    show diffL C _ = diffL (diffL C B) A
    unfold diffL
    rw [cut_cut]
    exact cut_eq fun i hi => by simp only [List.mem_append, mem_cut]; grind
  · show interL (interL A B) C = interL A (interL B C)
    unfold interL
    rw [cut_cut]
    exact cut_eq fun i hi => by rw [mem_cut]
  · show unionL A A = A
    rw [unionL_eq hA]
    have : diffL A A = [] := cut_none fun i hi h => h hi
    rw [this, List.append_nil]
  · exact cut_all fun i hi => hi
  · exact cut_all fun i hi => mem_unionL.mpr (.inl hi)
  · show unionL A (interL A B) = A
    rw [unionL_eq (nodup_interL hA)]
    have : diffL (interL A B) A = [] := cut_none fun i hi h => h (mem_interL.mp hi).1
    rw [this, List.append_nil]
  · show diffL A (unionL B C) = diffL (diffL A B) C
    unfold diffL
    rw [cut_cut]
    exact cut_eq fun i hi => by rw [mem_unionL]; grind
  · show diffL A B = diffL A (interL A B)
    exact eD fun i hi => by rw [mem_interL]; grind
  · rfl
  · show interL A (diffL B C) = diffL (interL A B) C
    unfold interL diffL
    rw [cut_cut]
    exact cut_eq fun i hi => by rw [mem_cut]
  · show diffL (unionL A B) C = unionL (diffL A C) (diffL B C)
    rw [unionL_eq hB, unionL_eq (nodup_diffL hB), diff_append]
    congr 1
    unfold diffL
    rw [cut_cut, cut_cut]
    exact cut_eq fun i hi => by rw [mem_cut]; grind
  · show unionL (interL A B) (diffL A B) = unionL (interL A B) (xorL A (interL A B))
    congr 1
    unfold xorL
    rw [unionL_eq (nodup_diffL (nodup_interL hA))]
    have : diffL (interL A B) A = [] := cut_none fun i hi h => h (mem_interL.mp hi).1
    have e2 : diffL A (interL A B) = diffL A B := eD fun i hi => by rw [mem_interL]; grind
    rw [this, e2]
    have : diffL [] (diffL A B) = [] := rfl
    rw [this, List.append_nil]

theorem sets_ok {A B C : List Int} (hA : A.Nodup) (hB : B.Nodup) (hC : C.Nodup) : ∀ q ∈ setsL A B C, q.1.Perm q.2 := by
  have key : ∀ {V W : List Int}, V.Nodup → W.Nodup → (∀ i, i ∈ V ↔ i ∈ W) → V.Perm W := fun h1 h2 h => (List.perm_ext_iff_of_nodup h1 h2).mpr h
  intro q hq
  simp only [setsL, List.mem_cons, List.not_mem_nil, or_false] at hq
  rcases hq with rfl | rfl | rfl | rfl | rfl | rfl | rfl | rfl | rfl
  · exact key (nodup_xorL (nodup_xorL hA)) (nodup_xorL hA) fun i => by simp only [mem_xorL]; grind
  · exact key (nodup_xorL (nodup_xorL hA)) hA fun i => by simp only [mem_xorL]; grind
  · exact key (nodup_interL hA) (nodup_unionL (nodup_interL hA)) fun i => by simp only [mem_interL, mem_unionL]; grind
  · exact key (nodup_unionL hA) (nodup_interL (nodup_unionL hA)) fun i => by simp only [mem_interL, mem_unionL]; grind
  · exact key (nodup_diffL hA) (nodup_unionL (nodup_diffL hA)) fun i => by simp only [mem_interL, mem_unionL, mem_diffL]; grind
  · exact key (nodup_interL hA) (nodup_xorL (nodup_interL hA)) fun i => by simp only [mem_interL, mem_xorL]; grind
  · exact key (nodup_xorL hA) (nodup_diffL (nodup_unionL hA)) fun i => by simp only [mem_interL, mem_unionL, mem_diffL, mem_xorL]; grind
  · exact key (nodup_unionL hA) (nodup_unionL hB) fun i => by simp only [mem_unionL]; grind
  · exact key (nodup_interL hA) (nodup_interL hB) fun i => by simp only [mem_interL]; grind

/-- the first places of a list: what unique_list keeps -/
theorem firsts_eq : ∀ (V : List Int), ((List.range V.length).filter fun k => decide (V.getD k 0 ∉ V.take k)).map (fun k => V.getD k 0) = uniqL V := by
  have snoc : ∀ (n : Nat) (V : List Int), n ≤ V.length → ((List.range n).filter fun k => decide (V.getD k 0 ∉ V.take k)).map (fun k => V.getD k 0) = uniqL (V.take n) := by
    intro n
    induction n with
    | zero => intro V _; simp [uniqL]
    | succ n ih =>
      intro V hn
      have hlt : n < V.length := hn
      rw [List.range_succ, List.filter_append, List.map_append, ih V (by omega), List.take_succ_eq_append_getElem hlt]
      have eg : V.getD n 0 = V[n] := by rw [List.getD_eq_getElem?_getD, List.getElem?_eq_getElem hlt]; rfl
      unfold uniqL
      rw [List.foldl_append]
      show _ = addU (List.foldl addU [] (V.take n)) V[n]
      have hm : V[n] ∈ List.foldl addU [] (V.take n) ↔ V[n] ∈ V.take n := by rw [mem_foldl_addU]; simp
      have ea : ∀ (Z : List Int) (v : Int), addU Z v = if v ∈ Z then Z else Z ++ [v] := fun _ _ => rfl
      rw [ea]
      by_cases h : V[n] ∈ V.take n
      · rw [if_pos (hm.mpr h), List.filter_cons, if_neg (by rw [eg]; simpa using h)]; simp
      · rw [if_neg (fun q => h (hm.mp q)), List.filter_cons, if_pos (by rw [eg]; simpa using h)]; simp only [List.filter_nil, List.map_cons, List.map_nil]; rw [eg]
  intro V
  have := snoc V.length V (Nat.le_refl _)
  rwa [List.take_length] at this
end
end Mine

end

section
open PySem PySem.W PyProof.Rows PySem.Calls
namespace Mine
def isPN (P : Nat → Bool) : Value → Bool
  | .int i _ => P i.toNat
  | _ => false

theorem paired_range {P : Nat → Bool} {f : Nat → Int} : ∀ (n : Nat) (vs ys : List Value), vs.length = n → (∀ j v, vs[j]? = some v → ∃ t, v = Value.int ((j : Nat) : Int) t) →
    Paired (fun v y => ∀ (k : Nat) t, v = Value.int (k : Int) t → ∃ t', y = Value.int (f k) t') (vs.filter (isPN P)) ys → IntsAre ys (((List.range n).filter P).map f) := by
  have key : ∀ (n o : Nat) (vs ys : List Value), vs.length = n → (∀ j v, vs[j]? = some v → ∃ t, v = Value.int ((o + j : Nat) : Int) t) →
      Paired (fun v y => ∀ (k : Nat) t, v = Value.int (k : Int) t → ∃ t', y = Value.int (f k) t') (vs.filter (isPN P)) ys → IntsAre ys (((List.range' o n).filter P).map f) := by
    intro n
    induction n with
    | zero =>
      intro o vs ys hl _ hp
      obtain rfl : vs = [] := List.length_eq_zero_iff.mp hl
      cases hp; exact .nil
    | succ n ih =>
      intro o vs ys hl hv hp
      match vs, hl with
      | v :: r, hl =>
        obtain ⟨t, rfl⟩ := hv 0 v rfl
        have hr : ∀ j v, r[j]? = some v → ∃ t, v = Value.int ((o + 1 + j : Nat) : Int) t := fun j v h => by
          obtain ⟨t, e⟩ := hv (j + 1) v (by simpa using h)
          exact ⟨t, by rw [e]; congr 1; omega⟩
        rw [List.range'_succ, List.filter_cons]
        rw [List.filter_cons] at hp
        have e : isPN P (Value.int ((o + 0 : Nat) : Int) t) = P o := rfl
        rw [e] at hp
        cases q : P o with
        | false =>
          rw [q] at hp
          simp only [Bool.false_eq_true, if_false] at hp ⊢
          exact ih (o + 1) r ys (by simpa using hl) hr hp
        | true =>
          rw [q] at hp
          simp only [if_true] at hp ⊢
          cases hp with
          | @cons _ y _ ys' h1 h2 =>
            obtain ⟨t', rfl⟩ := h1 (o + 0) t rfl
            exact .cons _ _ (ih (o + 1) r ys' (by simpa using hl) hr h2)
  intro n vs ys hl hv hp
  rw [List.range_eq_range']
  exact key n 0 vs ys hl (fun j v h => by obtain ⟨t, e⟩ := hv j v h; exact ⟨t, by rw [e, Nat.zero_add]⟩) hp

section
variable {prog : Program} {w : World} {A : Around} {E : Value → Shared → Prop} {s : Shared}

/-- `[ELT for x in range(n) if TEST]`, the test quiet, the element an int -/
theorem comp_range {env : Env} {x : Str} {px pos : Pos} {c elt iter : Expr} {scope : Scope} {cl : List (Str × Addr)} {Q : Value → Shared → Prop} (P : Nat → Bool) (f : Nat → Int)
    (hh : A.handled = none)
    (hclos : closureFor scope env = pure cl) (hcell : ∀ y ∈ scope.names, y.2 ≠ .cell) (hkind : scope.kind = .function)
    (hnames : ∀ y ∈ scope.names, y.2 = .local → scope.names.lookup y.1 = some .local) (hx : scope.names.lookup x = some .local)
    (h : wpAny (model prog w) A (PySem.eval iter env) (fun xv s₁ => Halt (∃ r n t u v, xv = .ref r ∧ IsRange s₁.heap r 0 ((n : Nat) : Int) 1 t u v ∧ n ≤ 1000 ∧
      (∀ C k tk s₃ m₃ E', k < n → s₁.heap.get? C = none → s₃.heap.Ns C m₃ → m₃ x = some (.int ((k : Nat) : Int) tk) → Stays s₁.heap s₃.heap →
        wpAny (model prog w) A (isTrue c (compEnvC scope cl C env) (PySem.eval c (compEnvC scope cl C env))) (fun ok s₄ => ok = P k ∧ Keeps s₃ s₄) E' s₃) ∧
      (∀ C k tk s₃ m₃ E', k < n → s₁.heap.get? C = none → s₃.heap.Ns C m₃ → m₃ x = some (.int ((k : Nat) : Int) tk) → Stays s₁.heap s₃.heap →
        wpAny (model prog w) A (PySem.eval elt (compEnvC scope cl C env)) (fun y s₄ => (∃ t, y = .int (f k) t) ∧ Keeps s₃ s₄) E' s₃) ∧
      (∀ D h' tk ys k, s₁.heap.get? D = none → h'.get? D = some (liObj ys k) → IntsAre ys (((List.range n).filter P).map f) → Stays s₁.heap h' → Q (.ref D) { s₁ with heap := h', toks := tk }))) E s)
    (hs : ∀ x, foldedSetIterable iter env x = pure x := by intro _; rfl) :
    wpAny (model prog w) A (PySem.eval (.ListComp elt [⟨.Name x px, iter, [c], 0⟩] scope pos) env) Q E s := by
  refine wpAny_ListComp_free (isPN P) (fun v y => ∀ (k : Nat) t, v = .int (k : Int) t → ∃ t', y = .int (f k) t') hclos hcell hkind hnames hx ?_ hs
  refine wpAny_mono h (fun xv s₁ h₁ => ?_) fun _ _ e => e
  obtain ⟨r, n, t, u, v, rfl, hr, hn, ht, he, hQ⟩ := h₁.out
  have hsm : Builtin.Range.small 0 ((n : Nat) : Int) 1 = true := small_one (by decide) (by decide) (by omega) (by omega)
  have hrs : Builtin.Range.rangeSize 0 ((n : Nat) : Int) 1 = ((n : Nat) : Int) := by rw [PyProof.Rows.rangeSize_nat]; omega
  refine wpAny_pyIter_range hr hsm ?_
  rw [hrs]
  have hI1 := Heap.get?_push_size s₁.heap (o := { cls := .type "range_iterator", data := .fields #[rawInt 0, rawInt ((n : Nat) : Int), rawInt 1] }) rfl
  have k1 := Stays.push (h := s₁.heap) { cls := .type "range_iterator", data := .fields #[rawInt 0, rawInt ((n : Nat) : Int), rawInt 1] }
  have fI := get_size s₁.heap
  generalize s₁.heap.objs.size = I at hI1 fI ⊢
  generalize s₁.heap.push { cls := .type "range_iterator", data := .fields #[rawInt 0, rawInt ((n : Nat) : Int), rawInt 1] } = H at hI1 k1 ⊢
  have up : ∀ {s₃ : Shared}, (∀ b o, b ∉ [I] → H.get? b = some o → s₃.heap.get? b = some o) → Stays s₁.heap s₃.heap := fun hk b o e => hk b o (fun hb => by rw [List.mem_singleton] at hb; subst hb; rw [fI] at e; cases e) (k1 b o e)
  have none_of : ∀ C, H.objs.size ≤ C → s₁.heap.get? C = none := fun C hC => by
    cases q : s₁.heap.get? C with
    | none => rfl
    | some o => exact absurd (Heap.lt_size (k1 _ _ q)) (Nat.not_lt.mpr hC)
  refine ⟨I, [I], [I], n, _, _, rfl, (Walks.range hh I 0 1 n).bound, by rw [sizeLine_eq]; omega, ?_, ?_, ⟨?_, ?_⟩, ?_⟩
  · show IsRangeIter H I _ _ _
    simpa using hI1
  · intro b hb
    rw [List.mem_singleton] at hb; subst hb; exact Heap.lt_size hI1
  · rintro C i v s₃ m₃ E' hC ⟨hi, t', rfl⟩ hn' hm hk htk
    rw [show (0 : Int) + (i : Int) * 1 = (i : Int) by omega] at hm ⊢
    exact wpAny_tests_one (ht C i t' s₃ m₃ E' hi (none_of C hC) hn' hm (up hk))
  · rintro C i v s₃ m₃ E' hC ⟨hi, t', rfl⟩ hpv hn' hm hk htk
    rw [show (0 : Int) + (i : Int) * 1 = (i : Int) by omega] at hm ⊢
    refine wpAny_mono (he C i t' s₃ m₃ E' hi (none_of C hC) hn' hm (up hk)) (fun y s₄ hy => ⟨fun k t e => ?_, hy.2⟩) fun _ _ z => z
    have : i = k := Int.ofNat_inj.mp (Value.int.inj e).1
    subst this; exact hy.1
  · intro D h2 tk2 ys vs hD hD2 hpl hlen hvs hF hk
    obtain ⟨k2, hk2⟩ := hpl
    have hv : ∀ j v, vs[j]? = some v → ∃ t, v = Value.int ((j : Nat) : Int) t := fun j v q => by
      obtain ⟨_, t, e⟩ := hvs j v q
      exact ⟨t, by rw [e, show (0 : Int) + (j : Int) * 1 = (j : Int) by omega]⟩
    refine hQ D h2 tk2 ys.toList k2 ?_ (by simpa using hk2) (paired_range n vs ys.toList hlen hv hF) (up (s₃ := { s₁ with heap := h2 }) hk)
    cases q : s₁.heap.get? D with
    | none => rfl
    | some o => have := k1 _ _ q; rw [hD] at this; cases this
/-- the same, stored under a local name -/
theorem comp_range_assign {env : Env} {x : Str} {y : Str} {px py pos spos : Pos} {c elt iter : Expr} {scope : Scope} {cl : List (Str × Addr)} {Q : Flow → Shared → Prop} (P : Nat → Bool) (f : Nat → Int)
    (hh : A.handled = none)
    (hsw : swapsWith (.ListComp elt [⟨.Name x px, iter, [c], 0⟩] scope pos) (some (.Name y py)) spos.line env = pure true)
    (hy : env.kindOf y = some .local) (hp : (env.scope.kind == .class || (env.scope.kind == .module && env.locals != env.globals)) = false)
    (hclos : closureFor scope env = pure cl) (hcell : ∀ y ∈ scope.names, y.2 ≠ .cell) (hkind : scope.kind = .function)
    (hnames : ∀ y ∈ scope.names, y.2 = .local → scope.names.lookup y.1 = some .local) (hx : scope.names.lookup x = some .local)
    (h : wpAny (model prog w) A (PySem.eval iter env) (fun xv s₁ => Halt (∃ m r n t u v, s₁.heap.Ns env.locals m ∧ xv = .ref r ∧ IsRange s₁.heap r 0 ((n : Nat) : Int) 1 t u v ∧ n ≤ 1000 ∧
      (∀ C k tk s₃ m₃ E', k < n → s₁.heap.get? C = none → s₃.heap.Ns C m₃ → m₃ x = some (.int ((k : Nat) : Int) tk) → Stays s₁.heap s₃.heap →
        wpAny (model prog w) A (isTrue c (compEnvC scope cl C env) (PySem.eval c (compEnvC scope cl C env))) (fun ok s₄ => ok = P k ∧ Keeps s₃ s₄) E' s₃) ∧
      (∀ C k tk s₃ m₃ E', k < n → s₁.heap.get? C = none → s₃.heap.Ns C m₃ → m₃ x = some (.int ((k : Nat) : Int) tk) → Stays s₁.heap s₃.heap →
        wpAny (model prog w) A (PySem.eval elt (compEnvC scope cl C env)) (fun y s₄ => (∃ t, y = .int (f k) t) ∧ Keeps s₃ s₄) E' s₃) ∧
      (∀ D h' tk ys k, s₁.heap.get? D = none → h'.get? D = some (liObj ys k) → IntsAre ys (((List.range n).filter P).map f) → h'.Ns env.locals (fun z => if z = y then some (.ref D) else m z) → (∀ b o, b ≠ env.locals → s₁.heap.get? b = some o → h'.get? b = some o) → Q .next { s₁ with heap := h', toks := tk }))) E s)
    (hs : ∀ x, foldedSetIterable iter env x = pure x := by intro _; rfl) :
    wpAny (model prog w) A (exec (.Assign [.Name y py] (.ListComp elt [⟨.Name x px, iter, [c], 0⟩] scope pos) spos) env) Q E s := by
  refine wpAny_Assign_ListComp_free (isPN P) (fun v y => ∀ (k : Nat) t, v = .int (k : Int) t → ∃ t', y = .int (f k) t') hsw hclos hcell hkind hnames hx hy hp ?_ hs
  refine wpAny_mono h (fun xv s₁ h₁ => ?_) fun _ _ e => e
  obtain ⟨m, r, n, t, u, v, hNs, rfl, hr, hn, ht, he, hQ⟩ := h₁.out
  have hsm : Builtin.Range.small 0 ((n : Nat) : Int) 1 = true := small_one (by decide) (by decide) (by omega) (by omega)
  have hrs : Builtin.Range.rangeSize 0 ((n : Nat) : Int) 1 = ((n : Nat) : Int) := by rw [PyProof.Rows.rangeSize_nat]; omega
  refine wpAny_pyIter_range hr hsm ?_
  rw [hrs]
  have hI1 := Heap.get?_push_size s₁.heap (o := { cls := .type "range_iterator", data := .fields #[rawInt 0, rawInt ((n : Nat) : Int), rawInt 1] }) rfl
  have k1 := Stays.push (h := s₁.heap) { cls := .type "range_iterator", data := .fields #[rawInt 0, rawInt ((n : Nat) : Int), rawInt 1] }
  have fI := get_size s₁.heap
  generalize s₁.heap.objs.size = I at hI1 fI ⊢
  generalize s₁.heap.push { cls := .type "range_iterator", data := .fields #[rawInt 0, rawInt ((n : Nat) : Int), rawInt 1] } = H at hI1 k1 ⊢
  have up : ∀ {s₃ : Shared}, (∀ b o, b ∉ [I] → H.get? b = some o → s₃.heap.get? b = some o) → Stays s₁.heap s₃.heap := fun hk b o e => hk b o (fun hb => by rw [List.mem_singleton] at hb; subst hb; rw [fI] at e; cases e) (k1 b o e)
  have none_of : ∀ C, H.objs.size ≤ C → s₁.heap.get? C = none := fun C hC => by
    cases q : s₁.heap.get? C with
    | none => rfl
    | some o => exact absurd (Heap.lt_size (k1 _ _ q)) (Nat.not_lt.mpr hC)
  have hLI : env.locals ≠ I := by
    obtain ⟨oL, _, _, hL, _⟩ := hNs
    intro e; rw [e, fI] at hL; cases hL
  refine ⟨I, [I], [I], n, _, _, m, rfl, (Walks.range hh I 0 1 n).bound, by rw [sizeLine_eq]; omega, ?_, ?_, by simpa using hLI, hNs.keeps k1, ⟨?_, ?_⟩, ?_⟩
  · show IsRangeIter H I _ _ _
    simpa using hI1
  · intro b hb
    rw [List.mem_singleton] at hb; subst hb; exact Heap.lt_size hI1
  · rintro C i v s₃ m₃ E' hC ⟨hi, t', rfl⟩ hn' hm hk htk
    rw [show (0 : Int) + (i : Int) * 1 = (i : Int) by omega] at hm ⊢
    exact wpAny_tests_one (ht C i t' s₃ m₃ E' hi (none_of C hC) hn' hm (up hk))
  · rintro C i v s₃ m₃ E' hC ⟨hi, t', rfl⟩ hpv hn' hm hk htk
    rw [show (0 : Int) + (i : Int) * 1 = (i : Int) by omega] at hm ⊢
    refine wpAny_mono (he C i t' s₃ m₃ E' hi (none_of C hC) hn' hm (up hk)) (fun y s₄ hy => ⟨fun k t e => ?_, hy.2⟩) fun _ _ z => z
    have : i = k := Int.ofNat_inj.mp (Value.int.inj e).1
    subst this; exact hy.1
  · intro D h2 tk2 ys vs hD hD2 hpl hlen hvs hF hns2 hk
    obtain ⟨k2, hk2⟩ := hpl
    have hv : ∀ j v, vs[j]? = some v → ∃ t, v = Value.int ((j : Nat) : Int) t := fun j v q => by
      obtain ⟨_, t, e⟩ := hvs j v q
      exact ⟨t, by rw [e, show (0 : Int) + (j : Int) * 1 = (j : Int) by omega]⟩
    refine hQ D h2 tk2 ys.toList k2 ?_ (by simpa using hk2) (paired_range n vs ys.toList hlen hv hF) hns2 (fun b o hb e => hk b o hb (fun hm => by rw [List.mem_singleton] at hm; subst hm; rw [fI] at e; cases e) (k1 b o e))
    cases q : s₁.heap.get? D with
    | none => rfl
    | some o => have := k1 _ _ q; rw [hD] at this; cases this
end
end Mine

end

section
open PySem PySem.W PyProof.Rows PySem.Calls
namespace Mine
section
variable {prog : Program} {w : World} {A : Around} {E : Value → Shared → Prop} {s : Shared}

theorem subTail {value slice : Expr} {o i : Value} {T id : String} {ops : List Value} {Q : Value → Shared → Prop} (hT : s.TypeIs o T)
    (hl : typeLookup (.type T) "__getitem__" = pure (some (.builtin id))) (h : wpAny (model prog w) A (getItem o i) Q E s)
    (hs : subscripted slice false o i = operate ops (getItem o i)) : wpAny (model prog w) A (subscriptTail value slice o i) Q E s := by
  unfold subscriptTail
  refine wpAny_bind ?_
  rw [getitemInPython_of_ne hT.not_modules]
  refine wpAny_bind (wpAny_specialOf hT hl ?_)
  have fin : wpAny (model prog w) A (subscripted slice false o i) (fun r s₃ => wpAny (model prog w) A (letTemporaryGo value o r >>= fun _ => pure r) Q E s₃) E s := by
    rw [hs]
    exact wpAny_operating (wpAny_mono h (fun r s₃ h₃ => wpAny_bind (wpAny_letTemporaryGo (wpAny_pure h₃))) fun _ _ x => x)
  first
    | exact wpAny_pure (wpAny_bind fin)
    | exact wpAny_pure fin
    | exact wpAny_bind (wpAny_pure (wpAny_bind fin))
    | exact fin

/-- the two expressions of "first occurrences": ROW[n] and ROW[n] not in ROW[:n], ROW a list of ints that is quick to name -/
theorem ev_item {env : Env} {re : Expr} {nn : Str} {pn pos : Pos} {r : Addr} {us : List Value} {V : List Int} {nr k : Nat} {tk : Tok} {mm : Str → Option Value} {Q : Value → Shared → Prop}
    (hre : ∀ {Q' : Value → Shared → Prop} {E' : Value → Shared → Prop}, (∀ tk, Q' (.ref r) { s with toks := tk }) → wpAny (model prog w) A (PySem.eval re env) Q' E' s)
    (hk : env.scope.kind = .function) (hx : env.kindOf nn = some .local) (hn : s.heap.Ns env.locals mm) (hm : mm nn = some (.int (k : Int) tk)) (hd : (nn == ("__debug__" : Str)) = false)
    (hr : s.heap.get? r = some (liObj us nr)) (hu : IntsAre us V) (hkV : k < V.length) (hV : V.length ≤ 1000)
    (hs : subscripted (.Name nn pn) false (.ref r) (.int (k : Int) tk) = operate [.ref r, .int (k : Int) tk] (getItem (.ref r) (.int (k : Int) tk)) := by with_unfolding_all rfl)
    (h : ∀ t tk, Q (.int (V.getD k 0) t) { s with toks := tk }) : wpAny (model prog w) A (PySem.eval (.Subscript re (.Name nn pn) pos) env) Q E s := by
  refine Subscript_ (hre fun t1 => wpAny_Name (wpAny_loadName_local hk hx hn hm ?_) hd)
  have hk' : k < us.length := by rw [hu.length]; exact hkV
  obtain ⟨t, e⟩ := PyProof.Rows.IntsAre.int_at hu k _ (List.getElem?_eq_getElem hk')
  have hl : s.heap.IsList r us.toArray := ⟨_, hr, rfl, nr, rfl⟩
  refine subTail (s := { s with toks := t1 }) hl.typeIs slot_list_getitem.lookup (wpAny_getItem_list (s := { s with toks := t1 }) hl (by omega) (by omega) (x := .int (V.getD k 0) t) ?_ (h t t1)) hs
  rw [List.getElem?_toArray, Int.toNat_natCast, List.getElem?_eq_getElem hk', e]

theorem ev_test {env : Env} {re re2 : Expr} {nn : Str} {pn pn2 ps1 ps2 ps3 pos : Pos} {r : Addr} {us : List Value} {V : List Int} {nr k : Nat} {tk : Tok} {mm : Str → Option Value} {Q : Bool → Shared → Prop} {wh : Sem Value}
    (hre : ∀ (h' : Heap) (tk' : Nat), Stays s.heap h' → ∀ {Q' : Value → Shared → Prop} {E' : Value → Shared → Prop}, (∀ tk, Q' (.ref r) { s with heap := h', toks := tk }) → wpAny (model prog w) A (PySem.eval re env) Q' E' { s with heap := h', toks := tk' })
    (hre2 : ∀ (h' : Heap) (tk' : Nat), Stays s.heap h' → ∀ {Q' : Value → Shared → Prop} {E' : Value → Shared → Prop}, (∀ tk, Q' (.ref r) { s with heap := h', toks := tk }) → wpAny (model prog w) A (PySem.eval re2 env) Q' E' { s with heap := h', toks := tk' })
    (hk : env.scope.kind = .function) (hx : env.kindOf nn = some .local) (hn : s.heap.Ns env.locals mm) (hm : mm nn = some (.int (k : Int) tk)) (hd : (nn == ("__debug__" : Str)) = false)
    (hr : s.heap.get? r = some (liObj us nr)) (hu : IntsAre us V) (hkV : k < V.length) (hV : V.length ≤ 1000)
    (hs : subscripted (.Name nn pn) false (.ref r) (.int (k : Int) tk) = operate [.ref r, .int (k : Int) tk] (getItem (.ref r) (.int (k : Int) tk)) := by with_unfolding_all rfl)
    (h : ∀ h' tk, Stays s.heap h' → Q (decide (V.getD k 0 ∉ V.take k)) { s with heap := h', toks := tk }) :
    wpAny (model prog w) A (isTrue (.Compare (.Subscript re (.Name nn pn) ps1) [.NotIn] [.Subscript re2 (.Slice none (some (.Name nn pn2)) none ps3) ps2] pos) env wh) Q E s := by
  refine wpAny_isTrue_Compare1 (ev_item (fun q => hre s.heap s.toks Stays.rfl' q) hk hx hn hm hd hr hu hkV hV hs fun t1 tk1 => ?_)
  refine Subscript_ (hre2 s.heap tk1 Stays.rfl' fun tk2 => ?_)
  refine wpAny_Slice (wpAny_evalPart_none (wpAny_evalPart_some (wpAny_Name (wpAny_loadName_local hk hx hn hm (wpAny_evalPart_none ?_)) hd)))
  have hl : s.heap.IsList r us.toArray := ⟨_, hr, rfl, nr, rfl⟩
  refine subTail (Heap.IsList.typeIs (s := { s with heap := s.heap.push { cls := .type "slice", data := .fields #[.none, .int (k : Int) tk, .none] }, toks := tk2 }) (hl.push _)) list_getitem_lookup
    (wpAny_getItem_list_slice (s := { s with heap := s.heap.push { cls := .type "slice", data := .fields #[.none, .int (k : Int) tk, .none] }, toks := tk2 }) (hl.push _) (Heap.IsSliceOf.new ..) IsPart.none (IsPart.int _ _) IsPart.none (by simp) ?_ (by rw [List.size_toArray, hu.length, sizeLine_eq]; omega)) (by with_unfolding_all rfl)
  have hi := kmk_upto hu (y := (k : Int)) (by omega)
  rw [Int.toNat_natCast] at hi
  have k2 : Stays s.heap ((s.heap.push { cls := .type "slice", data := .fields #[.none, .int (k : Int) tk, .none] }).push { cls := .type "list", data := .seq (slicePick us.toArray none (some (k : Int)) none) }) := Stays.trans (Stays.push _) (Stays.push _)
  have hD := Heap.get?_push_size (s.heap.push { cls := .type "slice", data := .fields #[.none, .int (k : Int) tk, .none] }) (o := { cls := .type "list", data := .seq (slicePick us.toArray none (some (k : Int)) none) }) rfl
  refine notin_list_ints (vs := (slicePick us.toArray none (some (k : Int)) none).toList) ⟨_, hD, rfl, 0, by simp⟩ hi (wpAny_truthy_bool ?_)
  have e : (!((V.take k).any (· == V.getD k 0))) = decide (V.getD k 0 ∉ V.take k) := by
    rw [Bool.eq_iff_iff]
    simp only [Bool.not_eq_true', decide_eq_true_eq, List.any_eq_false, beq_iff_eq]
    exact ⟨fun z q => z _ q rfl, fun z y hy e => z (e ▸ hy)⟩
  rw [e]
  exact h _ tk2 k2
end
end Mine

end

section
open PySem PySem.W PyProof.Rows PySem.Calls
namespace Mine
local macro_rules | `(tactic| walk_at "eval ListComp") => `(tactic| refine Mine.halt_at ?_)
local macro_rules | `(tactic| walk_at "exec Assign cons ListComp") => `(tactic| refine Mine.halt_at ?_)
local macro_rules | `(tactic| walk_at "call type:range") => `(tactic| refine Mine.halt_at ?_)

theorem law_s6 {w : World} {s : Shared} {E : Value → Shared → Prop} {Q : Flow → Shared → Prop} {p : Program} {loose : List Str} {mean : ExcName → Option Value} {mg mb : Str → Option Value} {g : Heap} {L fa rl r0 r1 r2 : Addr} {cd : Value} {m : Str → Option Value} {oH oR oS : Obj} {n nr : Nat} {us : List Value} {V : List Int} {more : List (Addr × Obj)}
    (X : (hd.heap_39 w.params).In g) (T : Top p loose mean mg mb g) (F : Fr g L s.heap m) (N : News g L s.heap ((rl, liObj [.ref r0, .ref r1, .ref r2] n) :: (r0, liObj us nr) :: (L + 1 + 1 + 1, oH) :: (L + 1 + 1, oR) :: (L + 1, oS) :: more))
    (dR : oR.data = .cell (some (.ref rl))) (hu : IntsAre us V) (hV : V.length ≤ 7)
    (hQ : ∀ h' tk D ys k, Fr g L h' (fun y => if y = "first" then some (.ref D) else m y) → News g L h' ((D, liObj ys k) :: (L + 1 + 1 + 1, oH) :: (L + 1 + 1, oR) :: (L + 1, oS) :: more) → IntsAre ys (uniqL V) → Q .next { s with heap := h', toks := tk }) :
    wpAny (model PySem.Challenge.rw_ae5044_01.row.prog w) (callerA.deeper (lawEnv w.params L fa cd)) (exec (lawSt w.params 6) (lawEnv w.params L fa cd)) Q E s := by
  rw [lawSt_eq]
  refine law_at (G := fun body scope => wpAny (model PySem.Challenge.rw_ae5044_01.row.prog w) (callerA.deeper (envOfC "law" scope L fa cd)) (exec (body.getD 6 (.Pass default)) (envOfC "law" scope L fa cd)) Q E s) (by rfl) ?_
  have X0 := X
  revert X; k_fill; intro X
  simp only [List.getD_cons_zero, List.getD_cons_succ]
  k_steps
  refine ⟨comp_range_assign (cl := [("rows", L + 1 + 1)]) (fun k => decide (V.getD k 0 ∉ V.take k)) (fun k => V.getD k 0) rfl (by rfl) (by rfl) (by rfl) (by with_unfolding_all rfl) (by decide) rfl (by decide) rfl ?_⟩
  k_steps
  refine ⟨call_range_1 ⟨m, _, V.length, _, _, _, ?_, rfl, IsRange.new .., by omega, ?_, ?_, ?_⟩⟩
  · exact F.ns.push _
  · intro C k tk s₃ m₃ E' hk hC hn hm k3
    have kk : Stays s.heap s₃.heap := Stays.trans (Stays.push _) k3
    refine ev_test (s := s₃) (r := r0) (us := us) (V := V) (nr := nr) (k := k) (tk := tk) (mm := m₃) ?_ ?_ ?_ ?_ ?_ ?_ ?_ ?_ ?_ ?_ ?_ ?_ ?_
    rotate_left
    rotate_left
    · rfl
    · rfl
    · exact hn
    · exact hm
    · decide
    · exact kk _ _ (N.get (.tail _ (.head _)))
    · exact hu
    · exact hk
    · omega
    · with_unfolding_all rfl
    · exact fun h' tk k4 => ⟨rfl, h', tk, rfl, k4⟩
    · intro h' tk' k4 Q' E' q
      have k5 := Stays.trans kk k4
      exact Subscript_ (wpAny_Name (wpAny_loadName_cell rfl rfl rfl ⟨oR, k5 _ _ (N.get (.tail _ (.tail _ (.tail _ (.head _))))), dR⟩ (wpAny_Constant_int (item_listL (l := [.ref r0, .ref r1, .ref r2]) ⟨_, k5 _ _ (N.get (.head _)), rfl, n, rfl⟩ (by decide) (by decide) rfl (q _)))) (by decide))
    · intro h' tk' k4 Q' E' q
      have k5 := Stays.trans kk k4
      exact Subscript_ (wpAny_Name (wpAny_loadName_cell rfl rfl rfl ⟨oR, k5 _ _ (N.get (.tail _ (.tail _ (.tail _ (.head _))))), dR⟩ (wpAny_Constant_int (item_listL (l := [.ref r0, .ref r1, .ref r2]) ⟨_, k5 _ _ (N.get (.head _)), rfl, n, rfl⟩ (by decide) (by decide) rfl (q _)))) (by decide))
  · intro C k tk s₃ m₃ E' hk hC hn hm k3
    have kk : Stays s.heap s₃.heap := Stays.trans (Stays.push _) k3
    refine ev_item (s := s₃) (r := r0) (us := us) (V := V) (nr := nr) (k := k) (tk := tk) (mm := m₃) ?_ (by rfl) (by rfl) (by exact hn) (by exact hm) (by decide) (kk _ _ (N.get (.tail _ (.head _)))) hu hk (by omega) (by with_unfolding_all rfl) fun t tk => ⟨⟨t, rfl⟩, s₃.heap, tk, rfl, fun _ _ e => e⟩
    intro Q' E' q
    refine Subscript_ (wpAny_Name (wpAny_loadName_cell rfl rfl rfl ⟨oR, kk _ _ (N.get (.tail _ (.tail _ (.tail _ (.head _))))), dR⟩ (wpAny_Constant_int (item_listL (l := [.ref r0, .ref r1, .ref r2]) ⟨_, kk _ _ (N.get (.head _)), rfl, n, rfl⟩ (by decide) (by decide) rfl (q _)))) (by decide))
  · intro D h' tk ys k hD hg' hi hns k'
    rw [firsts_eq] at hi
    have ks : ∀ b o, b ≠ L → s.heap.get? b = some o → h'.get? b = some o := fun b o hb e => k' b o hb (Heap.get?_push_of_some _ e)
    have F' : Fr g L h' (fun z => if z = "first" then some (.ref D) else m z) := ⟨hns, fun b o e => ks b o (Nat.ne_of_lt (Nat.lt_of_lt_of_le (Heap.lt_size e) F.above)) (F.keep b o e), F.above⟩
    have fD : s.heap.get? D = none := Stays.none (Stays.push _) hD
    refine hQ h' _ D ys k F' (fun q hq => ?_) hi
    rcases List.mem_cons.mp hq with rfl | hq
    · refine ⟨hg', fun e => ?_, ?_⟩
      · obtain ⟨oL, _, _, hL, _⟩ := F.ns
        dsimp only at e
        rw [e, hL] at fD; cases fD
      · exact Stays.none (h' := s.heap) F.keep fD
    · have Nq := N q (.tail _ (.tail _ hq))
      exact ⟨ks _ _ Nq.2.1 Nq.1, Nq.2⟩
end Mine

end

section
open PySem PySem.W PyProof.Rows PySem.Calls
namespace Mine
local macro_rules | `(tactic| walk_at "eval BinOp") => `(tactic| refine Mine.halt_at ?_)
local macro_rules | `(tactic| walk_at "call type:list") => `(tactic| refine Mine.halt_at ?_)

theorem law_s8 {w : World} {s : Shared} {E : Value → Shared → Prop} {Q : Flow → Shared → Prop} {p : Program} {loose : List Str} {mean : ExcName → Option Value} {mg mb : Str → Option Value} {g : Heap} {L fa a b c : Addr} {cd : Value} {m : Str → Option Value} {c3 c2 c1 : Addr × Obj} {more : List (Addr × Obj)} {VA VB VC : List Int}
    (X : (hd.heap_39 w.params).In g) (T : Top p loose mean mg mb g) (F : Fr g L s.heap m) (N : News g L s.heap (c3 :: c2 :: c1 :: more))
    (B : ∀ sc, sc = lawScope w.params → Bound (envOfC "law" sc L fa cd) L m [("a", a, VA), ("b", b, VB), ("c", c, VC)]) (hO : ∀ q ∈ [(("a" : Str), a, VA), ("b", b, VB), ("c", c, VC)], OSn (c3 :: c2 :: c1 :: more) q.2.1 q.2.2)
    (hQ : ∀ h' tk, Fr g L h' m → News g L h' (c3 :: c2 :: c1 :: more) → Q .next { s with heap := h', toks := tk }) :
    wpAny (model PySem.Challenge.rw_ae5044_01.row.prog w) (callerA.deeper (lawEnv w.params L fa cd)) (exec (lawSt w.params 8) (lawEnv w.params L fa cd)) Q E s := by
  have B0 := B _ rfl
  clear B
  revert B0
  rw [lawSt_eq]
  refine law_at (G := fun body scope => Bound (envOfC "law" scope L fa cd) L m [("a", a, VA), ("b", b, VB), ("c", c, VC)] → wpAny (model PySem.Challenge.rw_ae5044_01.row.prog w) (callerA.deeper (envOfC "law" scope L fa cd)) (exec (body.getD 8 (.Pass default)) (envOfC "law" scope L fa cd)) Q E s) (by rfl) ?_
  intro B
  have X0 := X
  revert X; k_fill; intro X
  simp only [List.getD_cons_zero, List.getD_cons_succ]
  k_steps
  have hd1 : callerA.depth + 1 + 4 < recursionLimit := by decide
  refine ⟨Den.eval X0 T rfl hd1 B (V := xorL VA VA) (.xor _ (.name _ (.head _)) (.name _ (.head _))) s _ _ F N hO fun h1 tk1 n1 x F1 N1 s1 O1 => ?_⟩
  k_steps
  have hd2 : callerA.depth + 1 < recursionLimit := by decide
  have ex : xorL VA VA = [] := by
    have : diffL VA VA = [] := cut_none fun i hi h => h hi
    unfold xorL; rw [this]; rfl
  have ed : diffL VA VA = [] := cut_none fun i hi h => h hi
  rw [ex] at O1
  obtain ⟨d1, l1, Ox1, _⟩ := O1.osx N1
  refine ⟨list_os (s := ⟨h1, _, _, _, _⟩) F1 X0 T rfl hd2 Ox1 fun h2 tk2 B1 vs k hi k2 hB hg => ?_⟩
  cases hi
  obtain ⟨F2, N2, ne2⟩ := news_new F1 N1 k2 hB hg
  dsimp only
  k_steps
  rename_i D3 h3 F3 N3 lt3
  refine ⟨Den.eval X0 T rfl hd1 B (V := diffL VA VA) (.sub _ (.name _ (.head _)) (.name _ (.head _))) ⟨h3, _, _, _, _⟩ _ _ F3 N3 (fun q hq => (hO q hq).mono fun z hz => .tail _ (.tail _ (s1 z hz))) fun h4 tk4 n4 x4 F4 N4 s4 O4 => ?_⟩
  k_steps
  rw [ed] at O4
  obtain ⟨d4, l4, Ox4, _⟩ := O4.osx N4
  refine ⟨list_os (s := ⟨h4, _, _, _, _⟩) F4 X0 T rfl hd2 Ox4 fun h5 tk5 B5 vs5 k5n hi5 k5 hB5 hg5 => ?_⟩
  cases hi5
  obtain ⟨F5, N5, ne5⟩ := news_new F4 N4 k5 hB5 hg5
  dsimp only
  k_steps
  rename_i l6 h6 F6 N6 lt6
  exact hQ h6 _ F6 (Mine.News.sub N6 fun q hq => .tail _ (.tail _ (s4 q (.tail _ (.tail _ (s1 q hq))))))
end Mine

end

section
open PySem PySem.W PyProof.Rows PySem.Calls
open PySem.Builtin.Frozenset PySem.Builtin PySem.Builtin.ObjectAttr PySem.Builtin.Getset_descriptor
namespace Mine
section
variable {prog : Program} {w : World} {A : Around} {E : Value → Shared → Prop} {s : Shared} {a b l r : Addr} {o ob : Obj} {S T R V : List Int}

theorem len_sub {K S : List Int} (hn : K.Nodup) (hs : ∀ i ∈ K, i ∈ S) : K.length ≤ S.length := List.Nodup.length_le_of_subset hn hs
theorem full_sub {K S : List Int} (hn : K.Nodup) (hs : ∀ i ∈ K, i ∈ S) (hl : S.length ≤ K.length) : ∀ i ∈ S, i ∈ K := fun i hi => by
  refine Classical.byContradiction fun q => ?_
  have := len_sub (K := i :: K) (S := S) (List.nodup_cons.mpr ⟨q, hn⟩) fun j hj => by
    rcases List.mem_cons.mp hj with rfl | hj
    · exact hi
    · exact hs j hj
  rw [List.length_cons] at this; omega

theorem plain_iloop : plainId "frozenset.intersection.loop" = true := by decide +kernel
theorem entry_iloop : entryFor table "frozenset.intersection.loop" = some Builtin.«frozenset.intersection.loop» := entryFor_of_tree (by kernel_rfl)

/-- what the loop has kept after all of V: members of S that are in V -/
theorem inter_list_loop {vs : List Value} (V : List Int) : ∀ (m k : Nat) {s : Shared} {K : List Int} {it : Addr} {A : Around} {Q : Result → Shared → Prop}, m = V.length - k → A.handled = none → s.heap.IsList l vs.toArray → IntsAre vs V → (∀ i ∈ V, Sm i) → s.heap.IsListIter it l k →
    SetAt s.heap a o S → SetAt s.heap r plainSet K → (∀ i, i ∈ K ↔ i ∈ S ∧ i ∈ V.take k) → r ≠ a → r ≠ it → r ≠ l → it ≠ l → a ≠ it → k ≤ V.length →
    (∀ h' tk K', (∀ i, i ∈ K' ↔ i ∈ S ∧ i ∈ V) → SetAt h' r plainSet K' → (∀ b x, b ≠ r → b ≠ it → s.heap.get? b = some x → h'.get? b = some x) → Q (.ok (.ret .none)) { s with heap := h', toks := tk }) →
    codeAny (model prog w) A (.builtin "frozenset.intersection.loop" ⟨[.ref a, .ref it, .ref r], []⟩) Q s
  | 0, k, s, K, it, A, Q, hm, hh, hl, hi, hsm, hit, Ha, Hr, hK, n1, n2, n3, n4, n5, hk, h => by
    have hkV : k = V.length := by omega
    subst hkV
    refine codeAny_builtin entry_iloop ?_
    rw [Around.under_plainId plain_iloop _]
    show wpAny _ A.in1 (pyNext (.ref it) >>= _) _ _ s
    refine wpAny_bind (wpAny_pyNext_list_end hh hit hl (by simp [hi.length]) fun h' eb => ?_)
    show wpAny _ A.in1 (ret Value.none) _ _ _
    obtain ⟨es, ep, t, hg, HS⟩ := Hr
    rw [List.take_length] at hK
    exact wpAny_pure (h h' s.toks K hK ⟨es, ep, t, eb _ _ n2 hg, HS⟩ fun b x _ hb e => eb b x hb e)
  | m + 1, k, s, K, it, A, Q, hm, hh, hl, hi, hsm, hit, Ha, Hr, hK, n1, n2, n3, n4, n5, hk, h => by
    have hlt : k < V.length := by omega
    have hlen : vs.length = V.length := hi.length
    obtain ⟨tk, hv⟩ := PyProof.Rows.IntsAre.int_at hi k _ (List.getElem?_eq_getElem (by omega : k < vs.length))
    have hx : vs.toArray[k]? = some (.int (V.getD k 0) tk) := by
      rw [List.getElem?_toArray, List.getElem?_eq_getElem (by omega : k < vs.length), hv]
    have hvk : V.getD k 0 = V[k] := by rw [List.getD_eq_getElem?_getD, List.getElem?_eq_getElem hlt]; rfl
    rw [hvk] at hx
    have hsk := hsm _ (List.getElem_mem hlt)
    refine codeAny_builtin entry_iloop ?_
    rw [Around.under_plainId plain_iloop _]
    show wpAny _ A.in1 (pyNext (.ref it) >>= _) _ _ s
    refine wpAny_bind (wpAny_pyNext_list_item hit hl hx fun h1 hit1 sb1 => ?_)
    show wpAny _ A.in1 (holding [Value.int V[k] tk] (pyHash (.int V[k] tk)) >>= _) _ _ _
    refine wpAny_bind (wpAny_holding ((PySem.intKind prog w).pyHash (k := V[k]) (intKind_is _ _ _ _) ?_))
    rw [show (PySem.intKind prog w).hash V[k] = V[k] from hash_small hsk]
    refine wpAny_bind (wpAny_holding (find_ (s := { s with heap := h1, toks := s.toks + 1 }) (Ha.but sb1 n5) hsk fun q hq => ?_))
    have hl1 : ∀ {h2 : Heap}, (∀ b x, b ≠ r → h1.get? b = some x → h2.get? b = some x) → h2.IsList l vs.toArray := fun {h2} k2 => by
      obtain ⟨ol, hol, rr⟩ := hl
      exact ⟨ol, k2 _ _ (Ne.symm n3) ((sb1.2 l (Ne.symm n4)).trans hol), rr⟩
    have hit2 : ∀ {h2 : Heap}, (∀ b x, b ≠ r → h1.get? b = some x → h2.get? b = some x) → h2.IsListIter it l (k + 1) := fun {h2} k2 => by
      obtain ⟨oi, hoi, rr⟩ := hit1
      exact ⟨oi, k2 _ _ (Ne.symm n2) hoi, rr⟩
    by_cases hin : V[k] ∈ S
    · rw [decide_eq_true hin] at hq
      rw [if_pos hq]
      refine wpAny_bind (wpAny_holding (add_ (s := { s with heap := h1, toks := s.toks + 1 }) (Hr.but sb1 n2) hsk fun h2 sb2 H2 => ?_))
      have k2 : ∀ b x, b ≠ r → h1.get? b = some x → h2.get? b = some x := fun b x hb e => (sb2.2 b hb).trans e
      have Ha2 : SetAt h2 a o S := (Ha.but sb1 n5).but sb2 (Ne.symm n1)
      have hK2 : ∀ i, i ∈ (if V[k] ∈ K then K else K ++ [V[k]]) ↔ i ∈ S ∧ i ∈ V.take (k + 1) := by
        intro i
        rw [List.take_succ_eq_append_getElem hlt, List.mem_append, List.mem_singleton]
        split
        · rename_i hk'
          rw [hK i]
          exact ⟨fun z => ⟨z.1, .inl z.2⟩, fun z => ⟨z.1, z.2.elim id fun e => e ▸ ((hK _).mp hk').2⟩⟩
        · rw [List.mem_append, List.mem_singleton, hK i]
          exact ⟨fun z => z.elim (fun z => ⟨z.1, .inl z.2⟩) fun e => ⟨e ▸ hin, .inr e⟩, fun z => z.2.elim (fun q => .inl ⟨z.1, q⟩) .inr⟩
      generalize (if V[k] ∈ K then K else K ++ [V[k]]) = K2 at H2 hK2
      refine wpAny_bind (sizeOf_ (s := { s with heap := h2, toks := s.toks + 1 }) H2 (wpAny_bind (sizeOf_ (s := { s with heap := h2, toks := s.toks + 1 }) Ha2 ?_)))
      by_cases hsz : K2.length ≥ S.length
      · rw [if_pos hsz]
        refine wpAny_bind (wpAny_rule (wpAny_pure ?_))
        refine h h2 _ K2 (fun i => ?_) H2 fun b x hb hb' e => k2 b x hb ((sb1.2 b hb').trans e)
        have hsub : ∀ j ∈ K2, j ∈ S := fun j hj => ((hK2 j).mp hj).1
        exact ⟨fun z => ⟨hsub i z, List.mem_of_mem_take ((hK2 i).mp z).2⟩, fun z => full_sub H2.nodup hsub hsz i z.1⟩
      · rw [if_neg hsz]
        refine wpAny_pure ⟨plainId_quiet plain_iloop _, ?_⟩
        exact inter_list_loop V m (k + 1) (s := { s with heap := h2, toks := s.toks + 1 }) (by omega) hh (hl1 k2) hi hsm (hit2 k2) Ha2 H2 hK2 n1 n2 n3 n4 n5 (by omega) fun h3 tk3 K3 hK3 H3 k3 => h h3 tk3 K3 hK3 H3 fun b x hb hb' e => k3 b x hb hb' (k2 b x hb ((sb1.2 b hb').trans e))
    · rw [decide_eq_false hin] at hq
      rw [if_neg (by rw [hq]; decide)]
      refine wpAny_pure ⟨plainId_quiet plain_iloop _, ?_⟩
      refine inter_list_loop V m (k + 1) (s := { s with heap := h1, toks := s.toks + 1 }) (by omega) hh (hl1 fun _ _ _ e => e) hi hsm (hit2 fun _ _ _ e => e) (Ha.but sb1 n5) (Hr.but sb1 n2) (fun i => ?_) n1 n2 n3 n4 n5 (by omega) fun h3 tk3 K3 hK3 H3 k3 => h h3 tk3 K3 hK3 H3 fun b x hb hb' e => k3 b x hb hb' ((sb1.2 b hb').trans e)
      rw [hK i, List.take_succ_eq_append_getElem hlt, List.mem_append, List.mem_singleton]
      exact ⟨fun z => ⟨z.1, .inl z.2⟩, fun z => ⟨z.1, z.2.elim id fun e => absurd (e ▸ z.1) hin⟩⟩

theorem inter_list {id : String} {vs : List Value} {Q : Value → Shared → Prop} (hh : A.handled = none) (H : SetAt s.heap a o S) (C : SetCls prog w s.heap o) (hl : s.heap.IsList l vs.toArray) (hi : IntsAre vs V) (hsm : ∀ i ∈ V, Sm i)
    (h : ∀ h' tk K, Stays s.heap h' → SetAt h' s.heap.objs.size plainSet K → (∀ i, i ∈ K ↔ i ∈ S ∧ i ∈ V) → Q (.ref s.heap.objs.size) { s with heap := h', toks := tk }) : wpAny (model prog w) A (intersection id a (.ref l)) Q E s := by
  have nla : l ≠ a := fun e => by
    obtain ⟨es, ep, t, hg, _⟩ := H
    obtain ⟨ol, hol, hc, n, hd⟩ := hl
    subst e; rw [hg] at hol; cases hol; cases hd
  unfold intersection
  rw [show (Value.ref l == Value.ref a) = false by simpa using nla]
  simp only [Bool.false_eq_true, if_false]
  refine wpAny_bind (baseOf_ H C (wpAny_bind (newSet_at fun t hm hf => wpAny_bind (wpAny_pure ?_))))
  have k1 := Stays.push (h := s.heap) { cls := .type "set", dict := none, data := .set #[] 0 t }
  have hrg := Heap.get?_push_size s.heap (o := { cls := .type "set", dict := none, data := .set #[] 0 t }) rfl
  have fr := get_size s.heap
  generalize s.heap.objs.size = r at hrg fr h ⊢
  generalize s.heap.push { cls := .type "set", dict := none, data := .set #[] 0 t } = h1 at k1 hrg ⊢
  have Hr : SetAt h1 r plainSet [] := ⟨_, _, _, hrg, .empty (fits0 hf)⟩
  have hl1 : h1.IsList l vs.toArray := by obtain ⟨ol, hol, rr⟩ := hl; exact ⟨ol, k1 _ _ hol, rr⟩
  refine wpAny_bind (wpAny_holding (wpAny_bind (notAny_list (s := { s with heap := h1 }) hl1 ?_)))
  simp only [Bool.false_eq_true, if_false]
  refine wpAny_bind (wpAny_pyIter_list (s := { s with heap := h1 }) hl1 ?_)
  have k2 := Stays.push (h := h1) { cls := .type "list_iterator", data := .fields #[.ref l, .int 0 0] }
  have hI := Heap.get?_push_size h1 (o := { cls := .type "list_iterator", data := .fields #[.ref l, .int 0 0] }) rfl
  have fI := get_size h1
  dsimp only
  generalize h1.objs.size = I at hI fI ⊢
  generalize h1.push { cls := .type "list_iterator", data := .fields #[.ref l, .int 0 0] } = h2 at k2 hI ⊢
  have ne0 : ∀ {b z}, h1.get? b = some z → b ≠ I := fun {b z} e q => by rw [q, fI] at e; cases e
  have nr : ∀ {b z}, s.heap.get? b = some z → b ≠ r := fun {b z} e q => by rw [q, fr] at e; cases e
  have H' := H
  have hl' := hl
  obtain ⟨es, ep, ta, hga, HSa⟩ := H'
  obtain ⟨ol, hol, rl⟩ := hl'
  refine wpAny_bind (wpAny_runValue ?_)
  refine inter_list_loop V V.length 0 (s := { s with heap := h2 }) rfl hh (by exact ⟨ol, k2 _ _ (k1 _ _ hol), rl⟩) hi hsm ⟨_, hI, rfl, rfl⟩ ((H.stays k1).stays k2) (Hr.stays k2) (by simp) (nr hga).symm (ne0 hrg) (nr hol).symm (ne0 (k1 _ _ hol)).symm (ne0 (k1 _ _ hga)) (Nat.zero_le _) fun h' tk K' hK' HK' kk => ?_
  exact wpAny_pure (wpAny_pure (h h' tk K' (fun b z e => kk b z (nr e) (ne0 (k1 _ _ e)) (k2 _ _ (k1 _ _ e))) HK' hK'))
end
end Mine

end

section
open PySem PySem.W PyProof.Rows PySem.Calls
open PySem.Builtin.Frozenset PySem.Builtin PySem.Builtin.ObjectAttr PySem.Builtin.Getset_descriptor
namespace Mine
theorem args_inter_3 (a b c : Value) : argsOk "set.intersection" ⟨[a, b, c], []⟩ := by
  unfold argsOk; rw [signature?_of (id := "set.intersection") (n := "intersection".toList.reverse) (o := ['t', 'e', 's']) (by kernel_rfl) PySem.F.owner_set]; kernel_rfl

/-- set.intersection(x, LIST, OTHER) -/
theorem inter_sc2 {w : World} {g : Heap} {x d l r y dy ly : Addr} {V R W : List Int} {us : List Value} {n : Nat} (X : (hd.heap_39 w.params).In g) (Ox : OSx g x d l V) (hr : g.get? r = some (liObj us n)) (hi : IntsAre us R) (hR : ∀ i ∈ R, Sm i) (Oy : OSx g y dy ly W) :
    SetCall w g "set.intersection" x [.ref r, .ref y] fun i => i ∈ V ∧ i ∈ R ∧ i ∈ W := by
  intro A E Q s hh k hQ
  have H := (Ox.stays k).osat.set
  have C := os_cls (prog := PySem.Challenge.rw_ae5044_01.row.prog) (o := osO d l) (X.keeps k) rfl
  refine call_sm (n := "intersection") (.inl (by kernel_rfl)) (by kernel_rfl) PySem.F.slot_set_intersection.plain entry_set_inter (H.inst C) (args_inter_3 _ _ _) ?_
  unfold Builtin.«frozenset.intersection» manyOthers
  simp only [List.isEmpty_nil, Bool.not_true, Bool.false_eq_true, if_false]
  refine wpAny_bind (wpAny_bind (wpAny_pure (wpAny_pure ?_)))
  dsimp only
  simp only [List.isEmpty_cons, Bool.false_eq_true, if_false]
  rw [List.forIn_cons]
  refine wpAny_bind (wpAny_bind (wpAny_bind (wpAny_holding (wpAny_bind (wpAny_pure (inter_list (by exact hh) H C ⟨_, k _ _ hr, rfl, n, rfl⟩ hi hR fun h1 tk1 K1 k1 H1 hK1 => wpAny_pure ?_))))))
  dsimp only
  rw [List.forIn_cons]
  have Xs := (X.keeps k).keeps k1
  refine wpAny_bind (wpAny_bind (wpAny_holding (wpAny_bind (wpAny_pure (inter_set (s := ⟨h1, _, _, _, _⟩) H1 ((Oy.stays k).stays k1).osat.set plain_cls (os_cls Xs rfl) fun h2 K2 k2 H2 hK2 => wpAny_pure ?_)))))
  dsimp only
  rw [List.forIn_nil]
  obtain ⟨es, ep, t, hg, HS⟩ := H2
  refine wpAny_pure (wpAny_pure ⟨_, rfl, hQ h2 _ _ es ep t K2 (Stays.trans k1 k2) (k1.none (get_size _)) hg HS fun i => ?_⟩)
  rw [hK2 i, hK1 i, and_assoc]
end Mine

end

section
open PySem PySem.W PyProof.Rows PySem.Calls
namespace Mine
local macro_rules | `(tactic| walk_at "eval BinOp") => `(tactic| refine Mine.halt_at ?_)
local macro_rules | `(tactic| walk_at "eval ListComp") => `(tactic| refine Mine.halt_at ?_)
local macro_rules | `(tactic| walk_at "call type:list") => `(tactic| refine Mine.halt_at ?_)
local macro_rules | `(tactic| walk_at "getMethod ref") => `(tactic| refine Mine.halt_at ?_)
local macro_rules | `(tactic| walk_at "call ref") => `(tactic| refine Mine.halt_at ?_)

theorem law_s7 {w : World} {s : Shared} {E : Value → Shared → Prop} {Q : Flow → Shared → Prop} {p : Program} {loose : List Str} {mean : ExcName → Option Value} {mg mb : Str → Option Value} {g : Heap} {L fa a b c D rl r0 r1 r2 : Addr} {cd : Value} {m : Str → Option Value} {oH oR oS : Obj} {n n1 k : Nat} {us1 fs : List Value} {more : List (Addr × Obj)} {VA VB VC R1 : List Int}
    (X : (hd.heap_39 w.params).In g) (T : Top p loose mean mg mb g) (F : Fr g L s.heap m) (N : News g L s.heap ((D, liObj fs k) :: (rl, liObj [.ref r0, .ref r1, .ref r2] n) :: (r1, liObj us1 n1) :: (L + 1 + 1 + 1, oH) :: (L + 1 + 1, oR) :: (L + 1, oS) :: more))
    (dR : oR.data = .cell (some (.ref rl))) (hf : IntsAre fs VA) (hu : IntsAre us1 R1) (hR1 : R1.length ≤ 7) (mF : m "first" = some (.ref D)) (ma : m "a" = some (.ref a)) (mb' : m "b" = some (.ref b)) (mc : m "c" = some (.ref c))
    (Oa : OSn more a VA) (Ob : OSn more b (uniqL R1)) (Oc : OSn more c VC) (sR1 : ∀ i ∈ R1, Sm i)
    (hQ : ∀ h' tk, Fr g L h' m → News g L h' ((D, liObj fs k) :: (rl, liObj [.ref r0, .ref r1, .ref r2] n) :: (r1, liObj us1 n1) :: (L + 1 + 1 + 1, oH) :: (L + 1 + 1, oR) :: (L + 1, oS) :: more) → Q .next { s with heap := h', toks := tk }) :
    wpAny (model PySem.Challenge.rw_ae5044_01.row.prog w) (callerA.deeper (lawEnv w.params L fa cd)) (exec (lawSt w.params 7) (lawEnv w.params L fa cd)) Q E s := by
  rw [lawSt_eq]
  refine law_at (G := fun body scope => wpAny (model PySem.Challenge.rw_ae5044_01.row.prog w) (callerA.deeper (envOfC "law" scope L fa cd)) (exec (body.getD 7 (.Pass default)) (envOfC "law" scope L fa cd)) Q E s) (by rfl) ?_
  have X0 := X
  revert X; k_fill; intro X
  simp only [List.getD_cons_zero, List.getD_cons_succ]
  k_steps
  have hd2 : callerA.depth + 1 < recursionLimit := by decide
  have up : ∀ q ∈ more, q ∈ (D, liObj fs k) :: (rl, liObj [.ref r0, .ref r1, .ref r2] n) :: (r1, liObj us1 n1) :: (L + 1 + 1 + 1, oH) :: (L + 1 + 1, oR) :: (L + 1, oS) :: more := fun q hq => by simp [hq]
  obtain ⟨da, la, Oxa, _⟩ := (Oa.mono up).osx N
  refine wpAny_Name (wpAny_loadName_local rfl rfl F.ns ma ?_) (by decide)
  k_steps
  refine ⟨list_os F X0 T rfl hd2 Oxa fun h1 tk1 B1 vs1 k1n hi1 k1 hB1 hg1 => ?_⟩
  obtain ⟨F1, N1, ne1⟩ := news_new F N k1 hB1 hg1
  refine wpAny_Name (wpAny_loadName_local rfl rfl F1.ns mF ?_) (by decide)
  k_steps
  have hd1 : callerA.depth + 1 + 4 < recursionLimit := by decide
  have B : ∀ {sc : Scope}, sc.kind = .function → (∀ x ∈ [("a" : Str), "b", "c"], sc.names.lookup x = some .local) → Bound (envOfC "law" sc L fa cd) L m [("a", a, VA), ("b", b, uniqL R1), ("c", c, VC)] := by
    intro sc hk hx
    refine ⟨rfl, hk, fun q hq => ?_⟩
    simp only [List.mem_cons, List.not_mem_nil, or_false] at hq
    rcases hq with rfl | rfl | rfl
    · exact ⟨hx _ (by simp), (show (("a" : Str) == ("__debug__" : Str)) = false by decide), ma⟩
    · exact ⟨hx _ (by simp), (show (("b" : Str) == ("__debug__" : Str)) = false by decide), mb'⟩
    · exact ⟨hx _ (by simp), (show (("c" : Str) == ("__debug__" : Str)) = false by decide), mc⟩
  have hO : ∀ q ∈ [(("a" : Str), a, VA), ("b", b, uniqL R1), ("c", c, VC)], OSn more q.2.1 q.2.2 := by
    intro q hq
    simp only [List.mem_cons, List.not_mem_nil, or_false] at hq
    rcases hq with rfl | rfl | rfl
    · exact Oa
    · exact Ob
    · exact Oc
  refine ⟨Den.eval X0 T rfl hd1 (B rfl (by decide)) (V := unionL VA (uniqL R1)) (.or _ (.name _ (.head _)) (.name _ (.tail _ (.head _)))) ⟨h1, _, _, _, _⟩ _ _ F1 N1 (fun q hq => (hO q hq).mono fun z hz => .tail _ (up z hz)) fun h2 tk2 n2 x2 F2 N2 s2 O2 => ?_⟩
  k_steps
  obtain ⟨d2, l2, Ox2, _⟩ := O2.osx N2
  refine ⟨list_os (s := ⟨h2, _, _, _, _⟩) F2 X0 T rfl hd2 Ox2 fun h3 tk3 B3 vs3 k3n hi3 k3 hB3 hg3 => ?_⟩
  obtain ⟨F3, N3, ne3⟩ := news_new F2 N2 k3 hB3 hg3
  have N4 : News g L h3 ((B3, liObj vs3 k3n) :: (D, liObj fs k) :: (rl, liObj [.ref r0, .ref r1, .ref r2] n) :: (r1, liObj us1 n1) :: (L + 1 + 1 + 1, oH) :: (L + 1 + 1, oR) :: (L + 1, oS) :: n2) := Mine.News.sub N3 fun q hq => by
    simp only [List.mem_cons] at hq
    rcases hq with rfl | rfl | rfl | rfl | rfl | rfl | rfl | hq
    · exact .head _
    · exact .tail _ (s2 _ (.tail _ (.head _)))
    · exact .tail _ (s2 _ (.tail _ (.tail _ (.head _))))
    · exact .tail _ (s2 _ (.tail _ (.tail _ (.tail _ (.head _)))))
    · exact .tail _ (s2 _ (.tail _ (.tail _ (.tail _ (.tail _ (.head _))))))
    · exact .tail _ (s2 _ (.tail _ (.tail _ (.tail _ (.tail _ (.tail _ (.head _)))))))
    · exact .tail _ (s2 _ (.tail _ (.tail _ (.tail _ (.tail _ (.tail _ (.tail _ (.head _))))))))
    · exact .tail _ hq
  have hlV : VA.length ≤ 9 := Oxa.len
  have hlU : (unionL VA (uniqL R1)).length ≤ 9 := Ox2.len
  clear N3 N1 N F F1 F2 N2
  k_steps
  refine wpAny_Name (wpAny_loadName_local rfl rfl F3.ns mF ?_) (by decide)
  k_steps
  rename_i DS ws h4 F4 N4 hi4 _ _ lt4
  have eT : List.take ((VA.length : Int)).toNat (unionL VA (uniqL R1)) = VA := by
    rw [Int.toNat_natCast, unionL_eq (nodup_uniqL R1), List.take_left']
    rfl
  rw [eT] at hi4
  refine wpAny_Name (wpAny_loadName_local rfl rfl F4.ns mF ?_) (by decide)
  k_steps
  have ks4 : ∀ q ∈ n2, q ∈ (DS, listOf ws.toArray 0) :: (B3, liObj vs3 k3n) :: (D, liObj fs k) :: (rl, liObj [.ref r0, .ref r1, .ref r2] n) :: (r1, liObj us1 n1) :: (L + 1 + 1 + 1, oH) :: (L + 1 + 1, oR) :: (L + 1, oS) :: n2 := fun q hq => by simp [hq]
  have s24 : ∀ q ∈ more, q ∈ (DS, listOf ws.toArray 0) :: (B3, liObj vs3 k3n) :: (D, liObj fs k) :: (rl, liObj [.ref r0, .ref r1, .ref r2] n) :: (r1, liObj us1 n1) :: (L + 1 + 1 + 1, oH) :: (L + 1 + 1, oR) :: (L + 1, oS) :: n2 := fun q hq => ks4 q (s2 q (.tail _ (up q hq)))
  obtain ⟨da4, la4, Oxa4, _⟩ := (Oa.mono s24).osx N4
  obtain ⟨db4, lb4, Oxb4, _⟩ := (Ob.mono s24).osx N4
  refine wpAny_Name (wpAny_loadName_local rfl rfl F4.ns ma ?_) (by decide)
  k_steps
  refine ⟨os_method (s := ⟨h4, _, _, _, _⟩) (X0.keeps F4.keep) Oxa4.osat (f := 161) (by kernel_rfl) (by kernel_rfl) ?_⟩
  k_steps
  refine wpAny_Name (wpAny_loadName_local rfl rfl F4.ns mb' ?_) (by decide)
  k_steps
  refine ⟨wpAny_call (inter_op w _ ⟨h4, _, _, _, _⟩ _ _ _ _ _ _ _ _ _ _ _ _ _ _ (X0.keeps F4.keep) (T.keeps F4.keep) (show callerA.depth + 1 + 3 < recursionLimit by decide) rfl Oxa4 Oxb4 fun h5 tk5 r5 dr5 lr5 k5 f1 f2 f3 O5 => ?_)⟩
  obtain ⟨F5, o5, ol5, N5, OS5, ne5⟩ := news_os F4 N4 k5 f1 f2 f3 O5
  k_steps
  refine ⟨list_os (s := ⟨h5, _, _, _, _⟩) F5 X0 T rfl hd2 O5 fun h6 tk6 B6 vs6 k6n hi6 k6 hB6 hg6 => ?_⟩
  obtain ⟨F6, N6, ne6⟩ := news_new F5 N5 k6 hB6 hg6
  have N7 : News g L h6 ((B6, liObj vs6 k6n) :: (D, liObj fs k) :: (rl, liObj [.ref r0, .ref r1, .ref r2] n) :: (r1, liObj us1 n1) :: (L + 1 + 1 + 1, oH) :: (L + 1 + 1, oR) :: (L + 1, oS) :: more) := Mine.News.sub N6 fun q hq => by
    rcases List.mem_cons.mp hq with rfl | hq
    · exact .head _
    · refine List.mem_cons_of_mem _ (List.mem_cons_of_mem _ (List.mem_cons_of_mem _ (List.mem_cons_of_mem _ (List.mem_cons_of_mem _ ?_))))
      simp only [List.mem_cons] at hq ⊢
      rcases hq with h | h | h | h | h | h | h <;> first | (simp [h]; done) | (have := s2 _ (.tail _ (up q h)); simp [this])
  clear N6 N5 N4 F5 ne5 ne6 ne3
  k_steps
  refine ⟨comp_filterN (cl := [("rows", L + 1 + 1)]) (fun i => decide (i ∈ R1)) rfl (by rfl) (by decide) rfl (by decide) rfl rfl ?_⟩
  refine wpAny_Name (wpAny_loadName_local rfl rfl F6.ns mF ?_) (by decide)
  have hk7 : ∀ {h' : Heap}, Stays h6 h' → h'.IsList r1 us1.toArray := fun kk => ⟨_, kk _ _ (N7.get (.tail _ (.tail _ (.tail _ (.head _))))), rfl, n1, rfl⟩
  refine ⟨D, fs, VA, k, SrcN.list (items := fs.toArray) ⟨_, N7.get (.tail _ (.head _)), rfl, k, rfl⟩, N7.get (.tail _ (.head _)), hf, by omega, ?_, ?_⟩
  · intro C i tk s₃ m₃ E' hi hC hn hm k3
    refine wpAny_isTrue_Compare1 (wpAny_Name (wpAny_loadName_local rfl rfl hn hm ?_) (by decide))
    refine Subscript_ (wpAny_Name (wpAny_loadName_cell rfl rfl rfl ⟨oR, k3 _ _ (N7.get (.tail _ (.tail _ (.tail _ (.tail _ (.tail _ (.head _))))))), dR⟩ (wpAny_Constant_int (item_listL (l := [.ref r0, .ref r1, .ref r2]) ⟨_, k3 _ _ (N7.get (.tail _ (.tail _ (.head _)))), rfl, n, rfl⟩ (by decide) (by decide) rfl ?_))) (by decide))
    refine in_list_ints (hk7 k3) hu (wpAny_truthy_bool ⟨?_, s₃.heap, _, rfl, fun _ _ e => e⟩)
    rw [Bool.eq_iff_iff]
    simp only [List.any_eq_true, beq_iff_eq, decide_eq_true_eq]
    exact ⟨fun ⟨y, hy, e⟩ => e ▸ hy, fun h => ⟨i, h, rfl⟩⟩
  intro D8 h8 tk8 ys8 k8n hD8 hg8 hi8 k8
  obtain ⟨F8, N8, ne8⟩ := news_new F6 N7 k8 hD8 hg8
  have e8 : interL VA (uniqL R1) = VA.filter fun i => decide (i ∈ R1) := by
    unfold interL
    exact List.filter_congr fun i _ => by rw [decide_eq_decide, mem_uniqL]
  rw [e8] at hi6
  clear N7
  dsimp only
  k_steps
  have up8 : ∀ {q0 q1 : Addr × Obj} (q : Addr × Obj), q ∈ more → q ∈ q0 :: q1 :: (D, liObj fs k) :: (rl, liObj [.ref r0, .ref r1, .ref r2] n) :: (r1, liObj us1 n1) :: (L + 1 + 1 + 1, oH) :: (L + 1 + 1, oR) :: (L + 1, oS) :: more := fun q hq => by simp [hq]
  obtain ⟨da8, la8, Oxa8, _⟩ := (Oa.mono up8).osx N8
  obtain ⟨dc8, lc8, Oxc8, _⟩ := (Oc.mono up8).osx N8
  refine wpAny_Name (wpAny_loadName_local rfl rfl F8.ns ma ?_) (by decide)
  k_steps
  refine ⟨os_method (s := ⟨h8, _, _, _, _⟩) (X0.keeps F8.keep) Oxa8.osat (f := 161) (by kernel_rfl) (by kernel_rfl) ?_⟩
  k_steps
  refine wpAny_Name (wpAny_loadName_local rfl rfl F8.ns mc ?_) (by decide)
  k_steps
  refine ⟨wpAny_call (inter (s := ⟨h8, _, _, _, _⟩) (P := fun i => i ∈ R1 ∧ i ∈ VC) (V := VA) (X0.keeps F8.keep) (T.keeps F8.keep) (show callerA.depth + 1 + 3 < recursionLimit by decide) rfl Oxa8 (.inr ⟨_, _, rfl⟩)
    (fun g' kg => inter_sc2 ((X0.keeps F8.keep).keeps kg) (Oxa8.stays kg) (kg _ _ (N8.get (.tail _ (.tail _ (.tail _ (.tail _ (.head _))))))) hu sR1 (Oxc8.stays kg)) fun h9 tk9 r9 dr9 lr9 k9 f91 f92 f93 O9 => ?_)⟩
  obtain ⟨F9, o9, ol9, N9, OS9, ne9⟩ := news_os F8 N8 k9 f91 f92 f93 O9
  k_steps
  refine ⟨list_os (s := ⟨h9, _, _, _, _⟩) F9 X0 T rfl hd2 O9 fun h10 tk10 B10 vs10 k10n hi10 k10 hB10 hg10 => ?_⟩
  obtain ⟨F10, N10, ne10⟩ := news_new F9 N9 k10 hB10 hg10
  have N11 : News g L h10 ((B10, liObj vs10 k10n) :: (D, liObj fs k) :: (rl, liObj [.ref r0, .ref r1, .ref r2] n) :: (r1, liObj us1 n1) :: (L + 1 + 1 + 1, oH) :: (L + 1 + 1, oR) :: (L + 1, oS) :: more) := Mine.News.sub N10 fun q hq => by
    rcases List.mem_cons.mp hq with rfl | hq
    · exact .head _
    · exact List.mem_cons_of_mem _ (List.mem_cons_of_mem _ (List.mem_cons_of_mem _ (List.mem_cons_of_mem _ (List.mem_cons_of_mem _ (List.mem_cons_of_mem _ hq)))))
  have up11 : ∀ (q : Addr × Obj), q ∈ more → q ∈ (B10, liObj vs10 k10n) :: (D, liObj fs k) :: (rl, liObj [.ref r0, .ref r1, .ref r2] n) :: (r1, liObj us1 n1) :: (L + 1 + 1 + 1, oH) :: (L + 1 + 1, oR) :: (L + 1, oS) :: more := fun q hq => by simp [hq]
  clear N10 N9 N8 F9 F8 ne10 ne9 ne8
  k_steps
  refine ⟨Den.eval X0 T rfl hd1 (B rfl (by decide)) (V := interL (interL VA (uniqL R1)) VC) (.and _ (.and _ (.name _ (.head _)) (.name _ (.tail _ (.head _)))) (.name _ (.tail _ (.tail _ (.head _))))) ⟨h10, _, _, _, _⟩ _ _ F10 N11 (fun q hq => (hO q hq).mono up11) fun h12 tk12 n12 x12 F12 N12 s12 O12 => ?_⟩
  k_steps
  obtain ⟨d12, l12, Ox12, _⟩ := O12.osx N12
  refine ⟨list_os (s := ⟨h12, _, _, _, _⟩) F12 X0 T rfl hd2 Ox12 fun h13 tk13 B13 vs13 k13n hi13 k13 hB13 hg13 => ?_⟩
  obtain ⟨F13, N13, ne13⟩ := news_new F12 N12 k13 hB13 hg13
  have e13 : interL (interL VA (uniqL R1)) VC = VA.filter fun i => decide (i ∈ R1 ∧ i ∈ VC) := by
    unfold interL
    rw [List.filter_filter]
    exact List.filter_congr fun i _ => by rw [Bool.eq_iff_iff]; simp [mem_uniqL, and_comm]
  rw [e13] at hi13
  have N14 : News g L h13 ((B13, liObj vs13 k13n) :: (B10, liObj vs10 k10n) :: (D, liObj fs k) :: (rl, liObj [.ref r0, .ref r1, .ref r2] n) :: (r1, liObj us1 n1) :: (L + 1 + 1 + 1, oH) :: (L + 1 + 1, oR) :: (L + 1, oS) :: more) := Mine.News.sub N13 fun q hq => by
    rcases List.mem_cons.mp hq with rfl | hq
    · exact .head _
    · exact List.mem_cons_of_mem _ (s12 _ hq)
  clear N13 N12 N11 F10 F12 ne13
  dsimp only
  k_steps
  refine hQ _ _ F13 (Mine.News.sub N14 fun q hq => ?_)
  exact List.mem_cons_of_mem _ (List.mem_cons_of_mem _ hq)
end Mine

end

section
open PySem PySem.W PyProof.Rows PySem.Calls
namespace Mine

section
variable {prog : Program} {w : World} {A : Around} {s : Shared} {h₀ : Heap} {L : Addr} {m : Str → Option Value} {news : List (Addr × Obj)} {I : Addr} {oi : Obj}

/-- a loop over range(n), by an invariant over the frame's map and the ledger -/
theorem loopR {env : Env} {x : Str} {px : Pos} {body : List Stmt} {R : Result → Shared → Prop} {n : Nat} (J : Nat → (Str → Option Value) → List (Addr × Obj) → Prop)
    (hh : A.handled = none) (hx : env.kindOf x = some .local) (hL : env.locals = L)
    (hp : (env.scope.kind == .class || (env.scope.kind == .module && env.locals != env.globals)) = false)
    (F : Fr h₀ L s.heap m) (N : News h₀ L s.heap ((I, oi) :: news)) (hit : IsRangeIter s.heap I 0 n 1) (hne : ∀ p ∈ news, p.1 ≠ I) (j0 : J 0 m news)
    (turn : ∀ i tk m₁ news₁ h₁ tk₁ o₁, i < n → J i m₁ news₁ → (∀ p ∈ news₁, p.1 ≠ I) → Fr h₀ L h₁ (fun y => if y = x then some (.int ((i : Nat) : Int) tk) else m₁ y) → News h₀ L h₁ ((I, o₁) :: news₁) →
      wpAny (model prog w) A (execs body env) (fun f s₂ => Halt (f = .next ∧ ∃ h tk m₂ news₂, s₂ = { s with heap := h, toks := tk } ∧ Fr h₀ L h m₂ ∧ News h₀ L h ((I, o₁) :: news₂) ∧ (∀ p ∈ news₂, p.1 ≠ I) ∧ J (i + 1) m₂ news₂)) (fun _ _ => False) { s with heap := h₁, toks := tk₁ })
    (fin : ∀ h tk m' news', Fr h₀ L h m' → News h₀ L h news' → J n m' news' → R (.ok .next) { s with heap := h, toks := tk }) :
    codeAny (model prog w) A (.forLoop (.Name x px) (.ref I) body [] env) R s := by
  refine codeAny_forLoop (fun k s' => ∃ h tk m' news' o' i, s' = { s with heap := h, toks := tk } ∧ Fr h₀ L h m' ∧ News h₀ L h ((I, o') :: news') ∧ IsRangeIter h I ((i : Nat) : Int) ((n : Int) - (i : Nat)) 1 ∧ (∀ p ∈ news', p.1 ≠ I) ∧ J i m' news' ∧ i ≤ n ∧ k = n - i) ?_ n
    ⟨s.heap, s.toks, m, news, oi, 0, rfl, F, N, by simpa using hit, hne, j0, Nat.zero_le _, rfl⟩
  rintro k s' ⟨h, tk, m', news', o', i, rfl, F', N', hit', hne', hJ, hi, rfl⟩
  by_cases hlt : i < n
  · refine wpAny_pyNext_range_item (s := { s with heap := h, toks := tk }) hit' (by omega) fun h1 hit1 sb1 => ?_
    obtain ⟨F1, N1⟩ := fn_but F' N' hne' (fun b z hb e => (sb1.2 b hb).trans e) hit1
    dsimp only
    subst hL
    refine wpAny_assign_Name (wpAny_storeName_local (s := { s with heap := h1, toks := tk + 1 }) hx F1.ns (fun h2 hn2 hs2 => ?_) hp)
    refine wpAny_mono (turn i _ m' news' h2 (tk + 1 + 1) _ hlt hJ hne' (F1.set hn2 hs2) (N1.set hs2)) (fun f s₃ h₃ => ?_) fun _ _ z => z.elim
    obtain ⟨rfl, h3, tk3, m3, news3, rfl, F3, N3, hn3, hJ3⟩ := h₃.out
    refine ⟨n - (i + 1), by omega, h3, tk3, m3, news3, _, i + 1, rfl, F3, N3, ?_, hn3, hJ3, hlt, rfl⟩
    have e1 : ((i + 1 : Nat) : Int) = (i : Int) + 1 := by push_cast; rfl
    have e2 : (n : Int) - ((i + 1 : Nat) : Int) = (n : Int) - (i : Int) - 1 := by push_cast; omega
    rw [e2, e1]
    exact N3.get (.head _)
  · have hin : i = n := by omega
    subst hin
    refine wpAny_pyNext_range_end (s := { s with heap := h, toks := tk }) hh hit' (by omega) fun h1 eb => ?_
    obtain ⟨F1, N1⟩ := fn_ext F' N' hne' fun b z hb e => eb b z hb e
    exact wpAny_execs_nil (fin h1 tk m' news' F1 N1 hJ)
end
end Mine

end

section
open PySem PySem.W PyProof.Rows PySem.Calls
namespace Mine

/-- after a deed in place the ledger tells of the changed OrderedSet -/
theorem os_moved {g : Heap} {L x d l l' : Addr} {m : Str → Option Value} {h h' : Heap} {news : List (Addr × Obj)} {ox ol : Obj} {V : List Int} (F : Fr g L h m) (N : News g L h news) (hx : (x, ox) ∈ news) (hd : (d, dictOf [] 0) ∈ news) (hl : (l, ol) ∈ news)
    (hl' : l' = l ∨ h.get? l' = none) (O : OSx h' x d l' V) (k : ∀ b z, b ≠ x → b ≠ l → h.get? b = some z → h'.get? b = some z) :
    Fr g L h' m ∧ ∃ nw, News g L h' nw ∧ (∀ q ∈ news, q.1 ≠ x → q.1 ≠ l → q ∈ nw) ∧ OSn nw x V := by
  refine ⟨fr_two F N hx hl k, ?_⟩
  obtain ⟨⟨es, ep, t, gx, H⟩, gd, vs, n, gl, hi⟩ := O
  refine ⟨(x, osD (osO d l') es ep t) :: (d, dictOf [] 0) :: (l', liObj vs n) :: news.filter fun q => q.1 != x && q.1 != l, fun q hq => ?_, fun q hq h1 h2 => ?_, d, l', es, ep, t, vs, n, .head _, .tail _ (.head _), .tail _ (.tail _ (.head _)), H, hi⟩
  · simp only [List.mem_cons] at hq
    rcases hq with rfl | rfl | rfl | hq
    · exact ⟨gx, (N _ hx).2⟩
    · exact ⟨gd, (N _ hd).2⟩
    · refine ⟨gl, ?_⟩
      rcases hl' with rfl | hl'
      · exact (N _ hl).2
      · refine ⟨fun e => ?_, Stays.none F.keep hl'⟩
        dsimp only at e
        obtain ⟨oL, _, _, hL, _⟩ := F.ns
        rw [e, hL] at hl'; cases hl'
    · obtain ⟨hq, h12⟩ := List.mem_filter.mp hq
      simp only [Bool.and_eq_true, bne_iff_ne] at h12
      exact ⟨k _ _ h12.1 h12.2 (N q hq).1, (N q hq).2⟩
  · exact .tail _ (.tail _ (.tail _ (List.mem_filter.mpr ⟨hq, by simp [h1, h2]⟩)))

def opI (i : Nat) (V W : List Int) : List Int := ([unionL V W, interL V W, diffL V W, symL V W] : List (List Int)).getD i []

theorem sym_xor {V W : List Int} (hV : V.Nodup) (hW : W.Nodup) : symL V W = xorL V W := by
  unfold symL xorL
  rw [unionL_eq (hW.filter _)]
  congr 1
  refine (cut_all fun i hi hj => ?_).symm
  exact ((mem_diffL.mp hi).2 (mem_diffL.mp hj).1)

theorem perm_nine {V : List Int} (h : V.Nodup) (hs : ∀ i ∈ V, Sm i) : V.Perm (((List.range 9).filter fun k => decide (((k : Nat) : Int) ∈ V)).map fun k => ((k : Nat) : Int)) := by
  refine (List.perm_ext_iff_of_nodup h ?_).2 fun i => ?_
  · exact List.Pairwise.map _ (fun a b hne e => hne (Int.ofNat_inj.mp e)) (List.Pairwise.filter _ List.nodup_range)
  · simp only [List.mem_map, List.mem_filter, List.mem_range, decide_eq_true_eq]
    refine ⟨fun hi => ?_, ?_⟩
    · obtain ⟨a, b⟩ := hs i hi
      exact ⟨i.toNat, ⟨by omega, by rw [Int.toNat_of_nonneg a]; exact hi⟩, Int.toNat_of_nonneg a⟩
    · rintro ⟨k, ⟨_, hk⟩, rfl⟩; exact hk
end Mine

end

section
open PySem PySem.W PyProof.Rows PySem.Calls
namespace Mine
local macro_rules | `(tactic| walk_at "exec For Name Call cons nil") => `(tactic| refine Mine.halt_at ?_)
local macro_rules | `(tactic| walk_at "pyIter ref") => `(tactic| refine Mine.halt_at ?_)
local macro_rules | `(tactic| walk_at "eval BinOp") => `(tactic| refine Mine.halt_at ?_)
local macro_rules | `(tactic| walk_at "eval ListComp") => `(tactic| refine Mine.halt_at ?_)
local macro_rules | `(tactic| walk_at "call type:list") => `(tactic| refine Mine.halt_at ?_)
local macro_rules | `(tactic| walk_at "call type:range") => `(tactic| refine Mine.halt_at ?_)
local macro_rules | `(tactic| walk_at "getMethod ref") => `(tactic| refine Mine.halt_at ?_)
local macro_rules | `(tactic| walk_at "subscriptTail") => `(tactic| refine Mine.halt_at ?_)
local macro_rules | `(tactic| walk_at "call builtin:sorted") => `(tactic| refine Mine.halt_at ?_)
local macro_rules | `(tactic| walk_at "call ref") => `(tactic| refine Mine.halt_at ?_)

theorem law_s9 {w : World} {s : Shared} {E : Value → Shared → Prop} {Q : Flow → Shared → Prop} {p : Program} {loose : List Str} {mean : ExcName → Option Value} {mg mb : Str → Option Value} {g : Heap} {L fa a b : Addr} {cd : Value} {m : Str → Option Value} {oH oR oS : Obj} {more : List (Addr × Obj)} {VA VB : List Int} {vH : Option Value}
    (X : (hd.heap_39 w.params).In g) (T : Top p loose mean mg mb g) (F : Fr g L s.heap m) (N : News g L s.heap ((L + 1 + 1 + 1, oH) :: (L + 1 + 1, oR) :: (L + 1, oS) :: more))
    (dH : oH.data = .cell vH) (ma : m "a" = some (.ref a)) (mb' : m "b" = some (.ref b)) (Oa : OSn more a VA) (Ob : OSn more b VB) (hVB : VB.length < 8) (hmH : ∀ q ∈ more, q.1 ≠ L + 1 + 1 + 1)
    (hQ : ∀ h' tk m' oH' vH', Fr g L h' m' → (∀ y : Str, y ≠ "k" → y ≠ "told" → m' y = m y) → News g L h' ((L + 1 + 1 + 1, oH') :: (L + 1 + 1, oR) :: (L + 1, oS) :: more) → oH'.data = .cell vH' → Q .next { s with heap := h', toks := tk }) :
    wpAny (model PySem.Challenge.rw_ae5044_01.row.prog w) (callerA.deeper (lawEnv w.params L fa cd)) (exec (lawSt w.params 9) (lawEnv w.params L fa cd)) Q E s := by
  rw [lawSt_eq]
  refine law_at (G := fun body scope => wpAny (model PySem.Challenge.rw_ae5044_01.row.prog w) (callerA.deeper (envOfC "law" scope L fa cd)) (exec (body.getD 9 (.Pass default)) (envOfC "law" scope L fa cd)) Q E s) (by rfl) ?_
  have X0 := X
  revert X; k_fill; intro X
  simp only [List.getD_cons_zero, List.getD_cons_succ]
  k_steps
  refine ⟨wpAny_For ?_⟩
  k_steps
  refine ⟨call_range_1 ?_⟩
  refine wpAny_pyIter_range (IsRange.new ..) (by rfl) ?_
  rw [show Builtin.Range.rangeSize 0 4 1 = 4 by rfl]
  dsimp only
  have k1 := Stays.push (h := s.heap) { cls := .type "range", data := .fields #[.int 0 (s.toks + 1), .int 4 s.toks, .int 1 (s.toks + 1 + 1)] }
  generalize s.heap.push { cls := .type "range", data := .fields #[.int 0 (s.toks + 1), .int 4 s.toks, .int 1 (s.toks + 1 + 1)] } = h1 at k1 ⊢
  have k2 := Stays.push (h := h1) { cls := .type "range_iterator", data := .fields #[rawInt 0, rawInt 4, rawInt 1] }
  have hI := Heap.get?_push_size h1 (o := { cls := .type "range_iterator", data := .fields #[rawInt 0, rawInt 4, rawInt 1] }) rfl
  have fI := k1.none (get_size h1)
  have k12 := Stays.trans k1 k2
  generalize h1.objs.size = I at hI fI ⊢
  generalize h1.push { cls := .type "range_iterator", data := .fields #[rawInt 0, rawInt 4, rawInt 1] } = h2 at hI k12 ⊢
  clear k1 k2
  obtain ⟨F2, N2, ne2⟩ := news_new F N k12 fI hI
  refine loopR (s := ⟨h2, _, _, _, _⟩) (n := 4) (fun i m' nws => ∃ oH' vH', nws = (L + 1 + 1 + 1, oH') :: (L + 1 + 1, oR) :: (L + 1, oS) :: more ∧ oH'.data = .cell vH' ∧ ∀ y : Str, y ≠ "k" → y ≠ "told" → m' y = m y) rfl (by rfl) rfl (by rfl) F2 N2 hI ne2 ⟨oH, vH, rfl, dH, fun _ _ _ => rfl⟩ ?_ ?_
  rotate_left
  · rintro h tk m' _ F' N' ⟨oH', vH', rfl, d', hm'⟩
    exact hQ h tk m' oH' vH' F' hm' N' d'
  rintro i tk m₁ _ h₁ tk₁ o₁ hi ⟨oH', vH', rfl, dH', hm⟩ hne F₁ N₁
  change Fr g L h₁ _ at F₁
  change News g L h₁ _ at N₁
  have hd3 : callerA.depth + 1 + 3 < recursionLimit := by decide
  have ma1 : (if ("a" : Str) = "k" then some (Value.int ((i : Nat) : Int) tk) else m₁ "a") = some (.ref a) := by rw [if_neg (by decide), hm _ (by decide) (by decide), ma]
  have mb1 : (if ("b" : Str) = "k" then some (Value.int ((i : Nat) : Int) tk) else m₁ "b") = some (.ref b) := by rw [if_neg (by decide), hm _ (by decide) (by decide), mb']
  obtain ⟨da, la, Oxa, _⟩ := (Oa.mono (news' := (I, o₁) :: (L + 1 + 1 + 1, oH') :: (L + 1 + 1, oR) :: (L + 1, oS) :: more) fun q hq => by simp [hq]).osx N₁
  k_steps
  refine wpAny_Name (wpAny_loadName_local rfl rfl F₁.ns ma1 ?_) (by decide)
  k_steps
  refine ⟨os_method (s := ⟨h₁, _, _, _, _⟩) (X0.keeps F₁.keep) Oxa.osat (f := 51) (by kernel_rfl) (by kernel_rfl) ?_⟩
  k_steps
  refine ⟨wpAny_call (copy_os (s := ⟨h₁, _, _, _, _⟩) (X0.keeps F₁.keep) (T.keeps F₁.keep) hd3 rfl Oxa fun h3 tk3 x d l k3 fx fd fl Ox => ?_)⟩
  obtain ⟨F3, ox, ol, N3, OS3, ne3⟩ := news_os F₁ N₁ k3 fx fd fl Ox
  have gx := Stays.none F₁.keep fx
  have gl := Stays.none F₁.keep fl
  have N4 : News g L h3 ((L + 1 + 1 + 1, oH') :: (L + 1 + 1, oR) :: (L + 1, oS) :: (x, ox) :: (d, dictOf [] 0) :: (l, ol) :: (I, o₁) :: more) := Mine.News.sub N3 fun q hq => by
    simp only [List.mem_cons] at hq ⊢
    rcases hq with h | h | h | h | h | h | h | h <;> simp [h]
  obtain ⟨⟨esx, epx, tx, hxx, Hx⟩, _, vsx, nx', hlx, hivx⟩ := id Ox
  have e1 := N4.get (.tail _ (.tail _ (.tail _ (.head _))))
  have e2 := N4.get (.tail _ (.tail _ (.tail _ (.tail _ (.tail _ (.head _))))))
  rw [hxx] at e1; rw [hlx] at e2
  cases e1; cases e2
  clear N3 N₁
  k_steps
  rename_i h4 F4 N5
  have hneH : ∀ q ∈ ((L + 1 + 1, oR) :: (L + 1, oS) :: (x, osD (osO d l) esx epx tx) :: (d, dictOf [] 0) :: (l, liObj vsx nx') :: (I, o₁) :: more), q.1 ≠ L + 1 + 1 + 1 := by
    have nn := ne3 (L + 1 + 1 + 1, oH') (.tail _ (.head _))
    intro q hq
    simp only [List.mem_cons] at hq
    rcases hq with rfl | rfl | rfl | rfl | rfl | rfl | hq
    · exact Nat.ne_of_lt (Nat.lt_succ_self _)
    · exact Nat.ne_of_lt (Nat.lt_succ_of_lt (Nat.lt_succ_self _))
    · exact nn.1.symm
    · exact nn.2.1.symm
    · exact nn.2.2.symm
    · exact (hne _ (.head _)).symm
    · exact hmH q hq
  refine wpAny_storeName_cell (s := ⟨h4, _, _, _, _⟩) (c := L + 1 + 1 + 1) rfl rfl rfl ⟨oH', N5.get (.head _), dH'⟩ fun h5 hc5 sb5 => ?_
  obtain ⟨oH2, hg2, dH2⟩ := hc5
  obtain ⟨F5, N6⟩ := fn_but F4 N5 hneH (fun b z hb e => sb5.extBut b z hb e) hg2
  clear N5 F4
  dsimp only
  obtain ⟨db, lb, esb, epb, tb, vsb, nb, hb1, hb2, hb3, Hb, hib⟩ := id Ob
  have nx := (ne3 _ (.tail _ (.tail _ (.tail _ (.tail _ hb1))))).1
  have nl := (ne3 _ (.tail _ (.tail _ (.tail _ (.tail _ hb3))))).2.2
  have up6 : ∀ q ∈ more, q ∈ (L + 1 + 1 + 1, oH2) :: (L + 1 + 1, oR) :: (L + 1, oS) :: (x, osD (osO d l) esx epx tx) :: (d, dictOf [] 0) :: (l, liObj vsx nx') :: (I, o₁) :: more := fun q hq => by simp [hq]
  have Oxb : OSx h5 b db lb VB := ⟨⟨esb, epb, tb, N6.get (up6 _ hb1), Hb⟩, N6.get (up6 _ hb2), vsb, nb, N6.get (up6 _ hb3), hib⟩
  have Oxx : OSx h5 x d l VA := by
    exact ⟨⟨esx, epx, tx, N6.get (.tail _ (.tail _ (.tail _ (.head _)))), Hx⟩, N6.get (.tail _ (.tail _ (.tail _ (.tail _ (.head _))))), vsx, nx', N6.get (.tail _ (.tail _ (.tail _ (.tail _ (.tail _ (.head _)))))), hivx⟩
  have hd4 : callerA.depth + 1 + 4 < recursionLimit := by decide
  refine wpAny_execs_cons ?_
  refine wpAny_mono (Q := fun f s₂ => Halt (f = .next ∧ ∃ h' tk' nw, s₂ = { s with heap := h', toks := tk' } ∧ Fr g L h' (fun y => if y = "told" then some (.ref x) else if y = "k" then some (.int ((i : Nat) : Int) tk) else m₁ y) ∧
    News g L h' ((L + 1 + 1 + 1, oH2) :: (L + 1 + 1, oR) :: (L + 1, oS) :: (I, o₁) :: nw) ∧ (∀ q ∈ more, q ∈ nw) ∧ OSn nw x (opI i VA VB))) ?_ ?_ fun _ _ z => z
  · have mb2 : (if ("b" : Str) = "told" then some (.ref x) else if ("b" : Str) = "k" then some (Value.int ((i : Nat) : Int) tk) else m₁ "b") = some (.ref b) := by rw [if_neg (by decide)]; exact mb1
    have pack : ∀ {h' : Heap} {l' : Addr} {V : List Int}, (l' = l ∨ h5.get? l' = none) → OSx h' x d l' V → (∀ b z, b ≠ x → b ≠ l → h5.get? b = some z → h'.get? b = some z) →
        Fr g L h' (fun y => if y = "told" then some (.ref x) else if y = "k" then some (.int ((i : Nat) : Int) tk) else m₁ y) ∧ ∃ nw, News g L h' ((L + 1 + 1 + 1, oH2) :: (L + 1 + 1, oR) :: (L + 1, oS) :: (I, o₁) :: nw) ∧ (∀ q ∈ more, q ∈ nw) ∧ OSn nw x V := by
      intro h' l' V hl' O' k'
      obtain ⟨F', nw, N', s', O'⟩ := os_moved F5 N6 (.tail _ (.tail _ (.tail _ (.head _)))) (.tail _ (.tail _ (.tail _ (.tail _ (.head _))))) (.tail _ (.tail _ (.tail _ (.tail _ (.tail _ (.head _)))))) hl' O' k'
      have n3 : ∀ q ∈ (I, o₁) :: (L + 1 + 1 + 1, oH') :: (L + 1 + 1, oR) :: (L + 1, oS) :: more, q.1 ≠ x ∧ q.1 ≠ l := fun q hq => ⟨(ne3 q hq).1, (ne3 q hq).2.2⟩
      have c3 := n3 (L + 1 + 1 + 1, oH') (.tail _ (.head _))
      have c2 := n3 (L + 1 + 1, oR) (.tail _ (.tail _ (.head _)))
      have c1 := n3 (L + 1, oS) (.tail _ (.tail _ (.tail _ (.head _))))
      have cI := n3 (I, o₁) (.head _)
      refine ⟨F', nw, Mine.News.sub N' fun q hq => ?_, fun q hq => s' q (up6 q hq) (n3 q (.tail _ (.tail _ (.tail _ (.tail _ hq))))).1 (n3 q (.tail _ (.tail _ (.tail _ (.tail _ hq))))).2, O'⟩
      simp only [List.mem_cons] at hq
      rcases hq with rfl | rfl | rfl | rfl | hq
      · exact s' _ (.head _) c3.1 c3.2
      · exact s' _ (.tail _ (.head _)) c2.1 c2.2
      · exact s' _ (.tail _ (.tail _ (.head _))) c1.1 c1.2
      · exact s' _ (.tail _ (.tail _ (.tail _ (.tail _ (.tail _ (.tail _ (.head _))))))) cI.1 cI.2
      · exact hq
    have i4 : i = 0 ∨ i = 1 ∨ i = 2 ∨ i = 3 := by omega
    rcases i4 with rfl | rfl | rfl | rfl
    · change Fr g L h5 (fun y => if y = "told" then some (.ref x) else if y = "k" then some (.int 0 tk) else m₁ y) at F5
      k_steps
      refine wpAny_Name (wpAny_loadName_local rfl rfl F5.ns mb2 ?_) (by decide)
      k_steps
      refine os_inplace (s := ⟨h5, _, _, _, _⟩) F5 X0 T rfl hd3 (ior_in w) (by kernel_rfl) (by kernel_rfl) Oxx Oxb gx gl nx nl hVB fun h' tk' l' hl' O' k' => ?_
      obtain ⟨F7, nw, N7, s7, O7⟩ := pack hl' O' k'
      dsimp only
      clear N6
      k_steps
      rename_i h8 F8 N8
      rw [frame2] at F8
      exact ⟨⟨rfl, h8, _, nw, rfl, F8, N8, s7, O7⟩⟩
    · change Fr g L h5 (fun y => if y = "told" then some (.ref x) else if y = "k" then some (.int 1 tk) else m₁ y) at F5
      k_steps
      refine wpAny_Name (wpAny_loadName_local rfl rfl F5.ns mb2 ?_) (by decide)
      k_steps
      refine os_inplace (s := ⟨h5, _, _, _, _⟩) F5 X0 T rfl hd4 (iand_in w) (by kernel_rfl) (by kernel_rfl) Oxx Oxb gx gl nx nl hVB fun h' tk' l' hl' O' k' => ?_
      obtain ⟨F7, nw, N7, s7, O7⟩ := pack hl' O' k'
      dsimp only
      clear N6
      k_steps
      rename_i h8 F8 N8
      rw [frame2] at F8
      exact ⟨⟨rfl, h8, _, nw, rfl, F8, N8, s7, O7⟩⟩
    · change Fr g L h5 (fun y => if y = "told" then some (.ref x) else if y = "k" then some (.int 2 tk) else m₁ y) at F5
      k_steps
      refine wpAny_Name (wpAny_loadName_local rfl rfl F5.ns mb2 ?_) (by decide)
      k_steps
      refine os_inplace (s := ⟨h5, _, _, _, _⟩) F5 X0 T rfl hd4 (isub_in w) (by kernel_rfl) (by kernel_rfl) Oxx Oxb gx gl nx nl hVB fun h' tk' l' hl' O' k' => ?_
      obtain ⟨F7, nw, N7, s7, O7⟩ := pack hl' O' k'
      dsimp only
      clear N6
      k_steps
      rename_i h8 F8 N8
      rw [frame2] at F8
      exact ⟨⟨rfl, h8, _, nw, rfl, F8, N8, s7, O7⟩⟩
    · change Fr g L h5 (fun y => if y = "told" then some (.ref x) else if y = "k" then some (.int 3 tk) else m₁ y) at F5
      k_steps
      refine wpAny_Name (wpAny_loadName_local rfl rfl F5.ns mb2 ?_) (by decide)
      k_steps
      refine os_inplace (s := ⟨h5, _, _, _, _⟩) F5 X0 T rfl hd4 (ixor_in w) (by kernel_rfl) (by kernel_rfl) Oxx Oxb gx gl nx nl hVB fun h' tk' l' hl' O' k' => ?_
      obtain ⟨F7, nw, N7, s7, O7⟩ := pack hl' O' k'
      dsimp only
      clear N6
      k_steps
      rename_i h8 F8 N8
      rw [frame2] at F8
      exact ⟨⟨rfl, h8, _, nw, rfl, F8, N8, s7, O7⟩⟩
  · rintro f s₂ ⟨⟨rfl, h6, tk6, nw, rfl, F6, N7, s7, O7⟩⟩
    dsimp only
    clear N6 F5
    have hd2 : callerA.depth + 1 < recursionLimit := by decide
    have ma6 : (if ("a" : Str) = "told" then some (.ref x) else if ("a" : Str) = "k" then some (Value.int ((i : Nat) : Int) tk) else m₁ "a") = some (.ref a) := by rw [if_neg (by decide)]; exact ma1
    have mb6 : (if ("b" : Str) = "told" then some (.ref x) else if ("b" : Str) = "k" then some (Value.int ((i : Nat) : Int) tk) else m₁ "b") = some (.ref b) := by rw [if_neg (by decide)]; exact mb1
    have B : ∀ {sc : Scope}, sc.kind = .function → (∀ x ∈ [("a" : Str), "b"], sc.names.lookup x = some .local) → Bound (envOfC "law" sc L fa cd) L (fun y => if y = "told" then some (.ref x) else if y = "k" then some (.int ((i : Nat) : Int) tk) else m₁ y) [("a", a, VA), ("b", b, VB)] := by
      intro sc hk hx
      refine ⟨rfl, hk, fun q hq => ?_⟩
      simp only [List.mem_cons, List.not_mem_nil, or_false] at hq
      rcases hq with rfl | rfl
      · exact ⟨hx _ (by simp), (show (("a" : Str) == ("__debug__" : Str)) = false by decide), ma6⟩
      · exact ⟨hx _ (by simp), (show (("b" : Str) == ("__debug__" : Str)) = false by decide), mb6⟩
    have hO : ∀ q ∈ [(("a" : Str), a, VA), ("b", b, VB)], OSn nw q.2.1 q.2.2 := by
      intro q hq
      simp only [List.mem_cons, List.not_mem_nil, or_false] at hq
      rcases hq with rfl | rfl
      · exact Oa.mono s7
      · exact Ob.mono s7
    obtain ⟨d6, l6, Ox6, _⟩ := (O7.mono (news' := (L + 1 + 1 + 1, oH2) :: (L + 1 + 1, oR) :: (L + 1, oS) :: (I, o₁) :: nw) fun q hq => by simp [hq]).osx N7
    k_steps
    refine ⟨list_os (s := ⟨h6, _, _, _, _⟩) F6 X0 T rfl hd2 Ox6 fun h7 tk7 B7 vs7 k7n hi7 k7 hB7 hg7 => ?_⟩
    obtain ⟨F7, N8, ne8⟩ := news_new F6 N7 k7 hB7 hg7
    clear N7 F6
    k_steps
    refine ⟨Den.eval X0 T rfl hd4 (B rfl (by decide)) (V := unionL VA VB) (.or _ (.name _ (.head _)) (.name _ (.tail _ (.head _)))) ⟨h7, _, _, _, _⟩ _ _ F7 N8 (fun q hq => (hO q hq).mono fun z hz => by simp [hz]) fun h8 tk8 n8 x8 F8 N9 s8 O8 => ?_⟩
    clear N8 F7
    k_steps
    refine ⟨Den.eval X0 T rfl hd4 (B rfl (by decide)) (V := interL VA VB) (.and _ (.name _ (.head _)) (.name _ (.tail _ (.head _)))) ⟨h8, _, _, _, _⟩ _ _ F8 N9 (fun q hq => (hO q hq).mono fun z hz => s8 z (by simp [hz])) fun h9 tk9 n9 x9 F9 N10 s9 O9 => ?_⟩
    clear N9 F8
    k_steps
    refine ⟨Den.eval X0 T rfl hd4 (B rfl (by decide)) (V := diffL VA VB) (.sub _ (.name _ (.head _)) (.name _ (.tail _ (.head _)))) ⟨h9, _, _, _, _⟩ _ _ F9 N10 (fun q hq => (hO q hq).mono fun z hz => s9 z (s8 z (by simp [hz]))) fun h10 tk10 n10 x10 F10 N11 s10 O10 => ?_⟩
    clear N10 F9
    k_steps
    refine ⟨Den.eval X0 T rfl hd4 (B rfl (by decide)) (V := xorL VA VB) (.xor _ (.name _ (.head _)) (.name _ (.tail _ (.head _)))) ⟨h10, _, _, _, _⟩ _ _ F10 N11 (fun q hq => (hO q hq).mono fun z hz => s10 z (s9 z (s8 z (by simp [hz])))) fun h11 tk11 n11 x11 F11 N12 s11 O11 => ?_⟩
    clear N11 F10
    k_steps
    rename_i DS h12 F12 N13 lt12
    have hnA : VA.Nodup := Oxa.nodup
    have hnB : VB.Nodup := Oxb.nodup
    obtain ⟨y, hy, Oy⟩ : ∃ y, ([.ref x8, .ref x9, .ref x10, .ref x11] : List Value)[i]? = some (.ref y) ∧ OSn n11 y (opI i VA VB) := by
      have i4 : i = 0 ∨ i = 1 ∨ i = 2 ∨ i = 3 := by omega
      rcases i4 with rfl | rfl | rfl | rfl
      · exact ⟨x8, rfl, O8.mono fun q hq => s11 q (s10 q (s9 q hq))⟩
      · exact ⟨x9, rfl, O9.mono fun q hq => s11 q (s10 q hq)⟩
      · exact ⟨x10, rfl, O10.mono s11⟩
      · exact ⟨x11, rfl, by show OSn n11 x11 (symL VA VB); rw [sym_xor hnA hnB]; exact O11⟩
    have hlD : h12.IsList DS #[.ref x8, .ref x9, .ref x10, .ref x11] := ⟨_, N13.get (.head _), rfl, 0, rfl⟩
    refine ⟨subTail (s := ⟨h12, _, _, _, _⟩) (ops := [.ref DS, .int ((i : Nat) : Int) tk]) hlD.typeIs slot_list_getitem.lookup (wpAny_getItem_list (s := ⟨h12, _, _, _, _⟩) hlD (by omega) (by omega) (x := .ref y) (by rw [Int.toNat_natCast]; simpa using hy) ?_) (by with_unfolding_all rfl)⟩
    have up13 : ∀ q ∈ (B7, liObj vs7 k7n) :: (L + 1 + 1 + 1, oH2) :: (L + 1 + 1, oR) :: (L + 1, oS) :: (I, o₁) :: nw, q ∈ n11 := fun q hq => s11 q (s10 q (s9 q (s8 q hq)))
    obtain ⟨dy, ly, Oyy, _⟩ := (Oy.mono (news' := (DS, listOf #[.ref x8, .ref x9, .ref x10, .ref x11] 0) :: n11) fun q hq => .tail _ hq).osx N13
    k_steps
    refine ⟨list_os (s := ⟨h12, _, _, _, _⟩) F12 X0 T rfl hd2 Oyy fun h13 tk13 B13 vs13 k13n hi13 k13 hB13 hg13 => ?_⟩
    obtain ⟨F13, N14, ne14⟩ := news_new F12 N13 k13 hB13 hg13
    have N15 : News g L h13 ((B13, liObj vs13 k13n) :: (B7, liObj vs7 k7n) :: (L + 1 + 1 + 1, oH2) :: (L + 1 + 1, oR) :: (L + 1, oS) :: (I, o₁) :: nw) := Mine.News.sub N14 fun q hq => by
      rcases List.mem_cons.mp hq with rfl | hq
      · exact .head _
      · exact List.mem_cons_of_mem _ (List.mem_cons_of_mem _ (up13 q hq))
    clear N14 N13 ne14 lt12 F12
    dsimp only
    k_steps
    have up15 : ∀ {q0 : Addr × Obj} (q : Addr × Obj), q ∈ nw → q ∈ q0 :: (L + 1 + 1 + 1, oH2) :: (L + 1 + 1, oR) :: (L + 1, oS) :: (I, o₁) :: nw := fun q hq => by simp [hq]
    have N15' : News g L h13 ((B13, liObj vs13 k13n) :: (L + 1 + 1 + 1, oH2) :: (L + 1 + 1, oR) :: (L + 1, oS) :: (I, o₁) :: nw) := Mine.News.sub N15 fun q hq => by
      rcases List.mem_cons.mp hq with rfl | hq
      · exact .head _
      · exact List.mem_cons_of_mem _ (List.mem_cons_of_mem _ hq)
    obtain ⟨d13, l13, Ox13, _⟩ := (O7.mono up15).osx N15'
    refine ⟨list_os (s := ⟨h13, _, _, _, _⟩) F13 X0 T rfl hd2 Ox13 fun h14 tk14 B14 vs14 k14n hi14 k14 hB14 hg14 => ?_⟩
    obtain ⟨F14, N16, ne16⟩ := news_new F13 N15' k14 hB14 hg14
    have N17 : News g L h14 ((B14, liObj vs14 k14n) :: (L + 1 + 1 + 1, oH2) :: (L + 1 + 1, oR) :: (L + 1, oS) :: (I, o₁) :: nw) := Mine.News.sub N16 fun q hq => by
      rcases List.mem_cons.mp hq with rfl | hq
      · exact .head _
      · exact List.mem_cons_of_mem _ (List.mem_cons_of_mem _ hq)
    clear N16 N15 N15' F13 ne16
    dsimp only
    k_steps
    have Ox14 := Ox13.stays k14
    refine ⟨list_os (s := ⟨h14, _, _, _, _⟩) F14 X0 T rfl hd2 Ox14 fun h15 tk15 B15 vs15 k15n hi15 k15 hB15 hg15 => ?_⟩
    obtain ⟨F15, N18, ne18⟩ := news_new F14 N17 k15 hB15 hg15
    have Ox15 := Ox14.stays k15
    clear F14 N17
    dsimp only
    k_steps
    refine ⟨sorted_os (s := ⟨h15, _, _, _, _⟩) F15 X0 T rfl hd2 Ox15 fun h16 tk16 B16 vs16 U16 k16n hi16 pe16 pw16 k16 hB16 hg16 => ?_⟩
    obtain ⟨F16, N19, ne19⟩ := news_new F15 N18 k16 hB16 hg16
    have Ox16 := Ox15.stays k16
    clear F15 N18
    dsimp only
    k_steps
    refine ⟨comp_range (cl := [("held", L + 1 + 1 + 1)]) (fun k => decide (((k : Nat) : Int) ∈ opI i VA VB)) (fun k => ((k : Nat) : Int)) rfl (by rfl) (by decide) rfl (by decide) rfl ?_⟩
    k_steps
    refine ⟨call_range_1 ⟨_, 9, _, _, _, rfl, IsRange.new .., by omega, ?_, ?_, ?_⟩⟩
    · intro C k tk s₃ m₃ E' hk hC hn hm k3
      have kk : Stays h16 s₃.heap := Stays.trans (Stays.push _) k3
      refine test_in (S := opI i VA VB) rfl rfl rfl rfl hn hm ⟨oH2, kk _ _ (N19.get (.tail _ (.tail _ (.tail _ (.head _))))), dH2⟩ (Ox16.stays kk).osat.set (os_cls (X0.keeps (F16.keeps kk).keep) rfl) (os_contains (X0.keeps (F16.keeps kk).keep) rfl) ⟨by omega, by omega⟩ rfl rfl fun tk4 => ⟨rfl, s₃.heap, tk4, rfl, fun _ _ e => e⟩
    · intro C k tk s₃ m₃ E' hk hC hn hm k3
      exact wpAny_Name (wpAny_loadName_local rfl rfl hn hm ⟨⟨_, rfl⟩, s₃.heap, _, rfl, fun _ _ e => e⟩) (by decide)
    intro D17 h17 tk17 ys17 k17n hD17 hg17 hi17 k17
    have k17' : Stays h16 h17 := Stays.trans (Stays.push _) k17
    obtain ⟨F17, N20, ne20⟩ := news_new F16 N19 k17' (Stays.none (Stays.push _) hD17) hg17
    have pe17 := perm_nine Ox16.nodup Ox16.small
    have h64 : ((List.range 9).filter fun k => decide (((k : Nat) : Int) ∈ opI i VA VB)).length ≤ 9 := Nat.le_trans (List.length_filter_le _ _) (by simp)
    clear F16 N19
    dsimp only
    k_steps
    refine ⟨kso_sorted (s := ⟨h17, _, _, _, _⟩) F17 N20 ⟨_, N20.get (.head _), rfl, k17n, rfl⟩ hi17 (by rw [List.length_map]; omega) fun D18 vs18 U18 c18 h18 F18 N21 lt18 hi18 _ pe18 pw18 _ => ?_⟩
    have eU : U16 = U18 := List.Perm.eq_of_pairwise (le := fun a b => a ≤ b) (fun a b _ _ h1 h2 => Int.le_antisymm h1 h2) pw16 pw18 ((pe16.trans pe17).trans pe18.symm)
    subst eU
    have N22 : News g L h18 ((D18, listOf vs18.toArray c18) :: (B16, liObj vs16 k16n) :: (L + 1 + 1 + 1, oH2) :: (L + 1 + 1, oR) :: (L + 1, oS) :: (I, o₁) :: nw) := Mine.News.sub N21 fun q hq => by
      simp only [List.mem_cons] at hq ⊢
      rcases hq with h | h | h | h | h | h | h <;> simp [h]
    clear N21 N20 F17
    dsimp only
    k_steps
    refine ⟨rfl, h18, _, _, (L + 1 + 1 + 1, oH2) :: (L + 1 + 1, oR) :: (L + 1, oS) :: more, rfl, F18, Mine.News.sub N22 fun q hq => ?_, fun q hq => ?_, oH2, some (.ref x), rfl, dH2, fun z hz1 hz2 => ?_⟩
    · simp only [List.mem_cons] at hq ⊢
      rcases hq with h | h | h | h | h
      · simp [h]
      · simp [h]
      · simp [h]
      · simp [h]
      · simp [s7 q h]
    · simp only [List.mem_cons] at hq
      rcases hq with rfl | rfl | rfl | hq
      · exact hne (L + 1 + 1 + 1, oH') (.head _)
      · exact hne _ (.tail _ (.head _))
      · exact hne _ (.tail _ (.tail _ (.head _)))
      · exact hne _ (.tail _ (.tail _ (.tail _ hq)))
    · show (if z = "told" then some (Value.ref x) else if z = "k" then some (Value.int ((i : Nat) : Int) tk) else m₁ z) = m z
      rw [if_neg hz2, if_neg hz1, hm z hz1 hz2]
end Mine

end

section
open PySem PySem.W PyProof.Rows PySem.Calls
namespace Mine

/-- a list of ints that was not there before -/
def FreshL (g h : Heap) (y : Value) (V : List Int) : Prop := ∃ r us n, y = .ref r ∧ g.get? r = none ∧ h.get? r = some (liObj us n) ∧ IntsAre us V

theorem new_env_cell {M : Model} {A : Around} {E : Value → Shared → Prop} {s : Shared} {env : Env} {scope : Scope} {x : Str} {Q : Env → Shared → Prop}
    (hc : ∀ n, cellsFrom n scope.names [] = [(x, n)]) (hp : ∀ h, pushCells h scope.names = h.push { cls := .type "cell", data := .cell none })
    (h : Q { scope := scope, locals := s.heap.objs.size, globals := env.globals, cells := [(x, s.heap.objs.size + 1)], qual := env.qual, func := none, code := env.code, frame := env.frame, builtins := env.builtins }
      { s with heap := (s.heap.push { cls := .type "dict", data := .dict #[] }).push { cls := .type "cell", data := .cell none } }) :
    wpAny M A (newFunctionEnv scope env.globals [] [] env.qual none .none (some env)) Q E s := by
  simp only [newFunctionEnv, Option.isSome_some, if_true]
  refine wpAny_bind (wpAny_alloc ?_)
  refine wpAny_bind (wpAny_layCells _ (fun name kind cells => by cases hkc : kind == NameKind.cell <;> simp [hkc]) _ _ _ _ ?_)
  rw [hp, hc]
  simp only [List.forIn_nil]
  refine wpAny_bind (wpAny_pure (wpAny_pure ?_))
  have e : (s.heap.push { cls := .type "dict", data := .dict #[] }).objs.size = s.heap.objs.size + 1 := Heap.size_push ..
  rw [e]
  exact h

section
variable {prog : Program} {w : World} {A : Around} {E : Value → Shared → Prop} {s : Shared}

/-- `[ELT for x in ITER]` where x is a cell, ITER a list and ELT makes a new list of ints each time -/
theorem comp_cell {env : Env} {x : Str} {px pos : Pos} {elt iter : Expr} {scope : Scope} {Q : Value → Shared → Prop} (W : Nat → List Int)
    (hh : A.handled = none) (hclos : closureFor scope env = pure []) (hkind : scope.kind = .function)
    (hnames : ∀ y ∈ scope.names, y.2 = .local → scope.names.lookup y.1 = some .local)
    (hc : ∀ n, cellsFrom n scope.names [] = [(x, n)]) (hp : ∀ h, pushCells h scope.names = h.push { cls := .type "cell", data := .cell none })
    (hx : (relabel scope env).names.lookup x = some .cell) (hbx : (x == x) = true)
    (h : wpAny (model prog w) A (PySem.eval iter env) (fun xv s₁ => Halt (∃ l us n, xv = .ref l ∧ s₁.heap.get? l = some (liObj us n) ∧ us.length ≤ 1000 ∧
      (∀ C cr i v s₃ E', us[i]? = some v → s₁.heap.get? C = none → s₃.heap.IsCell cr (some v) → Stays s₁.heap s₃.heap →
        wpAny (model prog w) A (PySem.eval elt (compEnvC scope [(x, cr)] C env)) (fun y s₄ => FreshL s₃.heap s₄.heap y (W i) ∧ Keeps s₃ s₄) E' s₃) ∧
      (∀ D h' tk ys k, s₁.heap.get? D = none → h'.get? D = some (liObj ys k) → ys.length = us.length → (∀ i y, ys[i]? = some y → FreshL s₁.heap h' y (W i)) → Stays s₁.heap h' → Q (.ref D) { s₁ with heap := h', toks := tk }))) E s)
    (hs : ∀ x, foldedSetIterable iter env x = pure x := by intro _; rfl) :
    wpAny (model prog w) A (PySem.eval (.ListComp elt [⟨.Name x px, iter, [], 0⟩] scope pos) env) Q E s := by
  rw [eval_ListComp]
  refine wpAny_comprehension_free (use := none) rfl hs hclos hkind hnames (wpAny_mono h (fun xv s₁ h₁ => ?_) fun _ _ e => e)
  obtain ⟨l, us, n, rfl, hl, hlen, ht, hQ⟩ := h₁.out
  refine wpAny_pyIter_list (s := s₁) (items := us.toArray) ⟨_, hl, rfl, n, rfl⟩ ?_
  have k1 := Stays.push (h := s₁.heap) { cls := .type "list_iterator", data := .fields #[.ref l, .int 0 0] }
  have hI := Heap.get?_push_size s₁.heap (o := { cls := .type "list_iterator", data := .fields #[.ref l, .int 0 0] }) rfl
  have fI := get_size s₁.heap
  generalize s₁.heap.objs.size = I at hI fI ⊢
  generalize s₁.heap.push { cls := .type "list_iterator", data := .fields #[.ref l, .int 0 0] } = h1 at hI k1 ⊢
  refine wpAny_newObj_type ?_
  dsimp only
  have k2 := Stays.push (h := h1) { cls := .type "list", data := .seq ([] : List Value).toArray }
  have hD := Heap.get?_push_size h1 (o := { cls := .type "list", data := .seq ([] : List Value).toArray }) rfl
  have fD := get_size h1
  generalize h1.objs.size = D at hD fD ⊢
  generalize h1.push { cls := .type "list", data := .seq ([] : List Value).toArray } = h2 at hD k2 ⊢
  refine new_env_cell hc hp ?_
  dsimp only
  have k3 := Stays.push (h := h2) { cls := .type "dict", data := .dict #[] }
  have k4 := Stays.push (h := h2.push { cls := .type "dict", data := .dict #[] }) { cls := .type "cell", data := .cell none }
  have hCns := (Heap.Ns.new h2 (.type "dict")).keeps k4
  have fC := get_size h2
  have fr := get_size (h2.push { cls := .type "dict", data := .dict #[] })
  have hcr := Heap.get?_push_size (h2.push { cls := .type "dict", data := .dict #[] }) (o := { cls := .type "cell", data := .cell none }) rfl
  have esz : (h2.push { cls := .type "dict", data := .dict #[] }).objs.size = h2.objs.size + 1 := Heap.size_push ..
  have lC : h2.objs.size ≠ h2.objs.size + 1 := Nat.ne_of_lt (Nat.lt_succ_self _)
  rw [esz] at fr hcr
  have k34 := Stays.trans k3 k4
  generalize h2.objs.size + 1 = cr at fr hcr lC ⊢
  generalize h2.objs.size = C at fC hCns lC ⊢
  generalize (h2.push { cls := .type "dict", data := .dict #[] }).push { cls := .type "cell", data := .cell none } = h3 at hcr k4 k34 hCns ⊢
  have fr2 : h2.get? cr = none := k3.none fr
  have hD3 := k34 _ _ hD
  have hI3 := k34 _ _ (k2 _ _ hI)
  have k13 : Stays s₁.heap h3 := (k1.trans k2).trans k34
  have nID : I ≠ D := fun e => by subst e; rw [hI] at fD; cases fD
  have nIC : I ≠ C := fun e => by subst e; rw [k2 _ _ hI] at fC; cases fC
  have nIr : I ≠ cr := fun e => by subst e; rw [k2 _ _ hI] at fr2; cases fr2
  have nDC : D ≠ C := fun e => by subst e; rw [hD] at fC; cases fC
  have nDr : D ≠ cr := fun e => by subst e; rw [hD] at fr2; cases fr2
  have old : ∀ b, b = I ∨ b = D ∨ b = C ∨ b = cr → s₁.heap.get? b = none := by
    rintro b (rfl | rfl | rfl | rfl)
    · exact fI
    · exact k1.none fD
    · exact (k1.trans k2).none fC
    · exact (k1.trans k2).none fr2
  have nlI : l ≠ I := fun e => by subst e; rw [hl] at fI; cases fI
  have hx' : Env.kindOf (compEnvC scope [(x, cr)] C env) x = some .cell := hx
  have loop : codeAny (model prog w) A (.compLoop (.ListComp elt [⟨.Name x px, iter, [], 0⟩] scope pos) 0 (.ref I) (.ref D) (compEnvC scope [(x, cr)] C env))
      (compPost (model prog w) A E none Q (.ref D) C) { s₁ with heap := h3 } := by
    refine codeAny_compLoop_list (fun k s' => ∃ i h tk out v, s' = { s₁ with heap := h, toks := tk } ∧ k = us.length - i ∧ i ≤ us.length ∧ h.IsListIter I l i ∧ h.PlainList D (List.toArray out) ∧ out.length = i ∧
      (∀ j y, out[j]? = some y → FreshL s₁.heap h y (W j) ∧ y ≠ .ref I ∧ y ≠ .ref D ∧ y ≠ .ref cr) ∧ h.Ns C (fun _ => none) ∧ h.IsCell cr v ∧ Stays s₁.heap h) ?_ us.length
      ⟨0, h3, _, [], none, rfl, rfl, Nat.zero_le _, ⟨_, hI3, rfl, rfl⟩, ⟨_, hD3⟩, rfl, by simp, hCns, ⟨_, hcr, rfl⟩, k13⟩
    rintro k s' ⟨i, h, tk, out, v, rfl, rfl, hi, hit, hpl, hol, hout, hns, hcl, kk⟩
    have hB : h.IsList l us.toArray := ⟨_, kk _ _ hl, rfl, n, rfl⟩
    have hIn : h.get? I ≠ none := by obtain ⟨_, e, _⟩ := hit; rw [e]; simp
    by_cases hlt : i < us.length
    · refine wpAny_pyNext_list_item (s := { s₁ with heap := h, toks := tk }) hit hB (x := us[i]) (by rw [List.getElem?_toArray, List.getElem?_eq_getElem hlt]) fun h4 hit4 sb4 => ?_
      dsimp only
      refine wpAny_assign_Name (wpAny_storeName_cell (s := { s₁ with heap := h4, toks := tk }) hkind hx' (by show List.lookup x [(x, cr)] = _; rw [List.lookup_cons, hbx]) (hcl.sameBut sb4 nIr.symm) fun h5 hc5 sb5 => ?_)
      have up : ∀ b o, b ≠ I → b ≠ cr → h.get? b = some o → h5.get? b = some o := fun b o b1 b2 e => sb5.extBut b o b2 (sb4.extBut b o b1 e)
      have kk5 : Stays s₁.heap h5 := fun b o e => up b o (fun q => by rw [q, fI] at e; cases e) (fun q => by rw [q, old cr (.inr (.inr (.inr rfl)))] at e; cases e) (kk b o e)
      refine wpAny_mono (ht C cr i us[i] { s₁ with heap := h5, toks := tk } _ (List.getElem?_eq_getElem hlt) (old C (.inr (.inr (.inl rfl)))) hc5 kk5) (fun y s₄ h₄ => ?_) fun _ _ z => z
      obtain ⟨⟨r, us', n', rfl, hr5, hr6, hi6⟩, h6, tk6, rfl, k6⟩ := h₄
      have hpl5 : h5.PlainList D out.toArray := hpl.at fun o e => up D o nID.symm nDr e
      refine wpAny_list_append_plain (s := { s₁ with heap := h6, toks := tk6 }) (hsz := by rw [List.size_toArray, sizeLine_eq]; omega) (hpl5.at fun o e => k6 _ o e) fun h7 hl7 sb7 => ?_
      have rI : r ≠ I := fun e => by
        obtain ⟨o, q, _⟩ := hit4
        have := sb5.extBut I o nIr q
        rw [e, this] at hr5; cases hr5
      have rD : r ≠ D := fun e => by obtain ⟨o, q⟩ := hpl5; rw [e, q] at hr5; cases hr5
      have rr : r ≠ cr := fun e => by obtain ⟨o, q, _⟩ := hc5; rw [e, q] at hr5; cases hr5
      refine ⟨us.length - (i + 1), by omega, i + 1, h7, tk6, out ++ [.ref r], some us[i], rfl, rfl, hlt, ?_, by simpa using hl7, by simp [hol], fun j y hj => ?_, ?_, ?_, ?_⟩
      · obtain ⟨o, q, r'⟩ := hit4
        exact ⟨o, sb7.extBut I o nID (k6 _ _ (sb5.extBut I o nIr q)), r'⟩
      · rcases Nat.lt_trichotomy j out.length with hj' | hj' | hj'
        · rw [List.getElem?_append_left hj'] at hj
          obtain ⟨⟨r2, us2, n2, e2, f2, g2, i2⟩, yI, yD, yr⟩ := hout j y hj
          subst e2
          exact ⟨⟨r2, us2, n2, rfl, f2, sb7.extBut r2 _ (fun e => yD (by rw [e])) (k6 _ _ (up r2 _ (fun e => yI (by rw [e])) (fun e => yr (by rw [e])) g2)), i2⟩, yI, yD, yr⟩
        · subst hj'
          rw [List.getElem?_append_right (Nat.le_refl _), Nat.sub_self] at hj
          cases hj
          refine ⟨⟨r, us', n', rfl, kk5.none hr5, sb7.extBut r _ rD hr6, by rw [hol]; exact hi6⟩, fun e => rI (by cases e; rfl), fun e => rD (by cases e; rfl), fun e => rr (by cases e; rfl)⟩
        · rw [List.getElem?_eq_none (by rw [List.length_append, List.length_singleton]; omega)] at hj; cases hj
      · exact ((hns.sameBut sb4 nIC.symm).sameBut sb5 lC |>.keeps k6).sameBut sb7 nDC.symm
      · exact (hc5.keeps k6).sameBut sb7 nDr.symm
      · exact fun b o e => sb7.extBut b o (fun q => by rw [q, old D (.inr (.inl rfl))] at e; cases e) (k6 b o (kk5 b o e))
    · have hin : i = us.length := by omega
      refine wpAny_pyNext_list_end (s := { s₁ with heap := h, toks := tk }) hh hit hB (by subst hin; simp) fun h4 eb => ?_
      refine ⟨_, hns.extBut eb nIC.symm, fun h5 sb5 => ?_⟩
      have up : ∀ b o, b ≠ I → b ≠ C → h.get? b = some o → h5.get? b = some o := fun b o b1 b2 e => sb5.extBut b o b2 (eb b o b1 e)
      obtain ⟨kD, eD⟩ := hpl
      refine hQ D h5 tk out kD (old D (.inr (.inl rfl))) (up D _ nID.symm nDC eD) (by rw [hol, hin]) (fun j y hj => ?_) fun b o e => up b o (fun q => by rw [q, fI] at e; cases e) (fun q => by rw [q, old C (.inr (.inr (.inl rfl)))] at e; cases e) (kk b o e)
      obtain ⟨⟨r2, us2, n2, e2, f2, g2, i2⟩, yI, yD, yr⟩ := hout j y hj
      subst e2
      refine ⟨r2, us2, n2, rfl, f2, up r2 _ (fun e => yI (by rw [e])) (fun e => ?_) g2, i2⟩
      subst e
      obtain ⟨oC, _, _, q, w, _⟩ := hns
      rw [g2] at q; cases q; cases w
  refine codeAny_compStart_list loop (wpAny_pyIter_listiter (s := { s₁ with heap := h3 }) ⟨_, hI3, rfl, rfl⟩ loop)
end
end Mine

end

section
open PySem PySem.W PyProof.Rows PySem.Calls
namespace Mine
theorem ints_has (l : List Int) : Spec.Shape.has (.list .int) (.list (l.map PyData.int)) = true := list_map_has fun _ => rfl
theorem rows3_shaped (X Y Z : List Int) : SeqAt.shaped (.list [.list (X.map PyData.int), .list (Y.map PyData.int), .list (Z.map PyData.int)]) = true := by
  simp [SeqAt.shaped, PyData.canLay0, PyData.canLayAll0, PyData.depth, PyData.depthAll, ke_canLayAll0, ke_depthAll]
theorem rows3_has (X Y Z : List Int) : Spec.Shape.has (.list (.list .int)) (.list [.list (X.map PyData.int), .list (Y.map PyData.int), .list (Z.map PyData.int)]) = true := by
  simp [Spec.Shape.has, ints_has]
theorem rows3_same (X Y Z : List Int) : PySem.Spec.same (.list [.list (X.map PyData.int), .list (Y.map PyData.int), .list (Z.map PyData.int)]) (.list [.list (X.map PyData.int), .list (Y.map PyData.int), .list (Z.map PyData.int)]) = true := by
  rw [PySem.Spec.same]
  simp only [PySem.Spec.sameAll, ke_same, decide_true, Bool.and_self]

section
variable {prog : Program} {w : World} {A : Around} {E : Value → Shared → Prop} {s : Shared}
theorem eq_rows3 {a b : Addr} {as bs : List Addr} {X Y Z : List Int} {Q : Value → Shared → Prop} (ra : Reads s.heap (.ref a) (.list [.list (X.map PyData.int), .list (Y.map PyData.int), .list (Z.map PyData.int)]) as)
    (rb : Reads s.heap (.ref b) (.list [.list (X.map PyData.int), .list (Y.map PyData.int), .list (Z.map PyData.int)]) bs) (hu : A.units + 64 < cLine) (h : Q (.bool true) s) : wpAny (model prog w) A (compareOp .Eq (.ref a) (.ref b)) Q E s :=
  eq_dataH_same ra rb (rows3_shaped X Y Z) (rows3_shaped X Y Z) hu (SeqAt.noMix_of_shape (.list (.list .int)) rfl _ _ (rows3_has X Y Z) (rows3_has X Y Z)) (by rw [rows3_same]; exact h)

/-- a list of three lists of ints -/
theorem reads_rows3 {h : Heap} {a p q r : Addr} {n np nq nr : Nat} {xs ys zs : List Value} {X Y Z : List Int} (ha : h.get? a = some (liObj [.ref p, .ref q, .ref r] n)) (hp : h.get? p = some (liObj xs np)) (hq : h.get? q = some (liObj ys nq)) (hr : h.get? r = some (liObj zs nr))
    (ix : IntsAre xs X) (iy : IntsAre ys Y) (iz : IntsAre zs Z) : ∃ as, Reads h (.ref a) (.list [.list (X.map PyData.int), .list (Y.map PyData.int), .list (Z.map PyData.int)]) as := by
  have one : ∀ {b : Addr} {vs : List Value} {k : Nat} {V : List Int}, h.get? b = some (liObj vs k) → IntsAre vs V → Reads h (.ref b) (.list (V.map PyData.int)) [b] := fun hb iv => reads_newData ⟨_, hb, rfl, _, rfl⟩ (ke_carried iv)
  exact ⟨_, reads_newLists (ys := [.ref p, .ref q, .ref r]) ⟨_, ha, rfl, n, rfl⟩ (.cons (one hp ix) (.cons (one hq iy) (.cons (one hr iz) .nil)))⟩
end
end Mine

end

section
open PySem PySem.W PyProof.Rows PySem.Calls
namespace Mine
local macro_rules | `(tactic| walk_at "eval ListComp") => `(tactic| refine Mine.halt_at ?_)
local macro_rules | `(tactic| walk_at "call type:list") => `(tactic| refine Mine.halt_at ?_)
local macro_rules | `(tactic| walk_at "compareOp Eq ref ref") => `(tactic| refine Mine.halt_at ?_)

theorem law_s10 {w : World} {s : Shared} {E : Value → Shared → Prop} {Q : Flow → Shared → Prop} {p : Program} {loose : List Str} {mean : ExcName → Option Value} {mg mb : Str → Option Value} {g : Heap} {L fa a b c rl r0 r1 r2 : Addr} {cd : Value} {m : Str → Option Value} {oH oR oS : Obj} {n n0 n1 n2 : Nat} {us0 us1 us2 : List Value} {R0 R1 R2 : List Int} {more : List (Addr × Obj)}
    (X : (hd.heap_39 w.params).In g) (T : Top p loose mean mg mb g) (F : Fr g L s.heap m) (N : News g L s.heap ((rl, liObj [.ref r0, .ref r1, .ref r2] n) :: (r0, liObj us0 n0) :: (r1, liObj us1 n1) :: (r2, liObj us2 n2) :: (L + 1 + 1 + 1, oH) :: (L + 1 + 1, oR) :: (L + 1, oS) :: more))
    (dR : oR.data = .cell (some (.ref rl))) (h0 : IntsAre us0 R0) (h1 : IntsAre us1 R1) (h2 : IntsAre us2 R2) (l0 : R0.length ≤ 7) (l1 : R1.length ≤ 7) (l2 : R2.length ≤ 7)
    (ma : m "a" = some (.ref a)) (mb' : m "b" = some (.ref b)) (mc : m "c" = some (.ref c)) (Oa : OSn more a (uniqL R0)) (Ob : OSn more b (uniqL R1)) (Oc : OSn more c (uniqL R2))
    (hQ : ∀ h' tk, Stays g h' → Q (.ret (.bool true)) { s with heap := h', toks := tk }) :
    wpAny (model PySem.Challenge.rw_ae5044_01.row.prog w) (callerA.deeper (lawEnv w.params L fa cd)) (exec (lawSt w.params 10) (lawEnv w.params L fa cd)) Q E s := by
  rw [lawSt_eq]
  refine law_at (G := fun body scope => wpAny (model PySem.Challenge.rw_ae5044_01.row.prog w) (callerA.deeper (envOfC "law" scope L fa cd)) (exec (body.getD 10 (.Pass default)) (envOfC "law" scope L fa cd)) Q E s) (by rfl) ?_
  have X0 := X
  revert X; k_fill; intro X
  simp only [List.getD_cons_zero, List.getD_cons_succ]
  have hd2 : callerA.depth + 1 < recursionLimit := by decide
  have up : ∀ q ∈ more, q ∈ (rl, liObj [.ref r0, .ref r1, .ref r2] n) :: (r0, liObj us0 n0) :: (r1, liObj us1 n1) :: (r2, liObj us2 n2) :: (L + 1 + 1 + 1, oH) :: (L + 1 + 1, oR) :: (L + 1, oS) :: more := fun q hq => by simp [hq]
  obtain ⟨da, la, Oxa, _⟩ := (Oa.mono up).osx N
  obtain ⟨db, lb, Oxb, _⟩ := (Ob.mono up).osx N
  obtain ⟨dc, lc, Oxc, _⟩ := (Oc.mono up).osx N
  k_steps
  refine wpAny_Name (wpAny_loadName_local rfl rfl F.ns ma ?_) (by decide)
  k_steps
  refine ⟨list_os F X0 T rfl hd2 Oxa fun h3 tk3 B3 vs3 k3n hi3 k3 hB3 hg3 => ?_⟩
  obtain ⟨F3, N3, ne3⟩ := news_new F N k3 hB3 hg3
  k_steps
  refine wpAny_Name (wpAny_loadName_local rfl rfl F3.ns mb' ?_) (by decide)
  k_steps
  refine ⟨list_os (s := ⟨h3, _, _, _, _⟩) F3 X0 T rfl hd2 (Oxb.stays k3) fun h4 tk4 B4 vs4 k4n hi4 k4 hB4 hg4 => ?_⟩
  obtain ⟨F4, N4, ne4⟩ := news_new F3 N3 k4 hB4 hg4
  k_steps
  refine wpAny_Name (wpAny_loadName_local rfl rfl F4.ns mc ?_) (by decide)
  k_steps
  refine ⟨list_os (s := ⟨h4, _, _, _, _⟩) F4 X0 T rfl hd2 ((Oxc.stays k3).stays k4) fun h5 tk5 B5 vs5 k5n hi5 k5 hB5 hg5 => ?_⟩
  obtain ⟨F5, N5, ne5⟩ := news_new F4 N4 k5 hB5 hg5
  k_steps
  rename_i DL h6 F6 N6 lt6
  have eR : nsIn (hd.heap_39 w.params) mainGlobals "range" = some none := by kernel_rfl
  have eN : nsIn (hd.heap_39 w.params) mainGlobals "len" = some none := by kernel_rfl
  have g0 := N6.get (.tail _ (.tail _ (.tail _ (.tail _ (.tail _ (.head _))))))
  have g1 := N6.get (.tail _ (.tail _ (.tail _ (.tail _ (.tail _ (.tail _ (.head _)))))))
  have g2 := N6.get (.tail _ (.tail _ (.tail _ (.tail _ (.tail _ (.tail _ (.tail _ (.head _))))))))
  have grl := N6.get (.tail _ (.tail _ (.tail _ (.tail _ (.head _)))))
  have gR := N6.get (.tail _ (.tail _ (.tail _ (.tail _ (.tail _ (.tail _ (.tail _ (.tail _ (.tail _ (.head _))))))))))
  refine ⟨comp_cell (W := fun i => ([uniqL R0, uniqL R1, uniqL R2] : List (List Int)).getD i []) rfl (by rfl) rfl (by decide) (fun _ => rfl) (fun _ => rfl) (by rfl) (by decide) ?_⟩
  refine wpAny_Name (wpAny_loadName_cell rfl rfl rfl ⟨oR, gR, dR⟩ ?_) (by decide)
  refine ⟨rl, [.ref r0, .ref r1, .ref r2], n, rfl, grl, by simp, ?_, ?_⟩
  · intro C cr i v s₃ E' hv hC hcr k6
    obtain ⟨r, us, nr, R, rfl, hr, hu, hl, hW⟩ : ∃ r us nr R, v = Value.ref r ∧ h6.get? r = some (liObj us nr) ∧ IntsAre us R ∧ R.length ≤ 7 ∧ ([uniqL R0, uniqL R1, uniqL R2] : List (List Int)).getD i [] = uniqL R := by
      match i, hv with
      | 0, hv => cases hv; exact ⟨r0, us0, n0, R0, rfl, g0, h0, l0, rfl⟩
      | 1, hv => cases hv; exact ⟨r1, us1, n1, R1, rfl, g1, h1, l1, rfl⟩
      | 2, hv => cases hv; exact ⟨r2, us2, n2, R2, rfl, g2, h2, l2, rfl⟩
    have esz : us.toArray.size = R.length := by rw [List.size_toArray, hu.length]
    rw [hW]
    refine comp_range (cl := [("row", cr)]) (fun k => decide (R.getD k 0 ∉ R.take k)) (fun k => R.getD k 0) rfl (by rfl) (by decide) rfl (by decide) rfl ?_
    refine eval_call1 (fv := .type "range") (fun q => ld_name X0 T F6 k6 eR (by kernel_rfl) (by decide) rfl rfl rfl rfl (by decide) q) rfl ?_
    refine eval_call1 (fv := .builtin "len") (fun q => ld_name X0 T F6 k6 eN (by kernel_rfl) (by decide) rfl rfl rfl rfl (by decide) q) rfl ?_
    refine wpAny_Name (wpAny_loadName_cell rfl rfl rfl hcr ?_) (by decide)
    refine len_list (items := us.toArray) ⟨_, k6 _ _ hr, rfl, nr, rfl⟩ (by rw [esz]; omega) ?_
    rw [esz]
    refine call_range_1 ⟨_, R.length, _, _, _, rfl, IsRange.new .., by omega, ?_, ?_, ?_⟩
    · intro C2 k tk s₄ m₄ E2 hk hC2 hn hm k4
      have kk : Stays s₃.heap s₄.heap := Stays.trans (Stays.push _) k4
      refine ev_test (s := s₄) (r := r) (us := us) (V := R) (nr := nr) (k := k) (tk := tk) (mm := m₄) ?_ ?_ (by rfl) (by rfl) (by exact hn) (by exact hm) (by decide) (kk _ _ (k6 _ _ hr)) hu hk (by omega) (by with_unfolding_all rfl) fun h' tk k5 => ⟨rfl, h', tk, rfl, k5⟩
      · intro h' tk' k5 Q' E' q
        exact wpAny_Name (wpAny_loadName_cell rfl rfl rfl ((hcr.keeps kk).keeps k5) (q _)) (by decide)
      · intro h' tk' k5 Q' E' q
        exact wpAny_Name (wpAny_loadName_cell rfl rfl rfl ((hcr.keeps kk).keeps k5) (q _)) (by decide)
    · intro C2 k tk s₄ m₄ E2 hk hC2 hn hm k4
      have kk : Stays s₃.heap s₄.heap := Stays.trans (Stays.push _) k4
      refine ev_item (s := s₄) (r := r) (us := us) (V := R) (nr := nr) (k := k) (tk := tk) (mm := m₄) ?_ (by rfl) (by rfl) (by exact hn) (by exact hm) (by decide) (kk _ _ (k6 _ _ hr)) hu hk (by omega) (by with_unfolding_all rfl) fun t tk => ⟨⟨t, rfl⟩, s₄.heap, tk, rfl, fun _ _ e => e⟩
      intro Q' E' q
      exact wpAny_Name (wpAny_loadName_cell rfl rfl rfl (hcr.keeps kk) (q _)) (by decide)
    · intro D h' tk ys k hD hg' hi k'
      rw [firsts_eq] at hi
      exact ⟨⟨D, ys, k, rfl, Stays.none (Stays.push _) hD, hg', hi⟩, h', tk, rfl, Stays.trans (Stays.push _) k'⟩
  · intro D h' tk ys k hD hg' hlen hall k'
    match ys, hlen with
    | [y0, y1, y2], _ =>
      obtain ⟨q0, vs0, m0, rfl, _, e0, i0⟩ := hall 0 _ rfl
      obtain ⟨q1, vs1, m1, rfl, _, e1, i1⟩ := hall 1 _ rfl
      obtain ⟨q2, vs2, m2, rfl, _, e2, i2⟩ := hall 2 _ rfl
      obtain ⟨as, ra⟩ := reads_rows3 (k' _ _ (N6.get (.head _))) (k' _ _ (N6.get (.tail _ (.tail _ (.tail _ (.head _)))))) (k' _ _ (N6.get (.tail _ (.tail _ (.head _))))) (k' _ _ (N6.get (.tail _ (.head _)))) hi3 hi4 hi5
      obtain ⟨bs, rb⟩ := reads_rows3 hg' e0 e1 e2 i0 i1 i2
      exact eq_rows3 (s := ⟨h', _, _, _, _⟩) ra rb (show callerA.units + 3 + 64 < cLine by decide) (hQ _ _ (Stays.trans F6.keep k'))
end Mine

end

section
open PySem PySem.W PyProof.Rows PySem.Calls
namespace Mine

theorem not_cell {g : Heap} {L c : Addr} {h : Heap} {led : List (Addr × Obj)} {o : Obj} {v : Option Value} {q : Addr × Obj} (N : News g L h led) (hc : (c, o) ∈ led) (hq : q ∈ led) (d : o.data = .cell v) (n : ∀ v, q.2.data ≠ .cell v) : q.1 ≠ c := by
  intro e
  have e1 := (N _ hc).1
  have e2 := (N _ hq).1
  rw [e] at e2
  dsimp only at e1
  rw [e1] at e2
  cases e2
  exact n v d

theorem OSn.cut {g : Heap} {L c : Addr} {h : Heap} {led more : List (Addr × Obj)} {o : Obj} {v : Option Value} {x : Addr} {V : List Int} (N : News g L h led) (hc : (c, o) ∈ led) (d : o.data = .cell v) (s : ∀ q ∈ more, q ∈ led) (O : OSn more x V) : OSn (more.filter fun q => q.1 != c) x V := by
  obtain ⟨dd, l, es, ep, t, vs, n, a, b, e, H, i⟩ := O
  have k : ∀ q ∈ more, (∀ v, q.2.data ≠ .cell v) → q ∈ more.filter fun q => q.1 != c := fun q hq hn => List.mem_filter.mpr ⟨hq, by simpa using not_cell N hc (s q hq) d hn⟩
  exact ⟨dd, l, es, ep, t, vs, n, k _ a (by intro v; simp), k _ b (by intro v; simp), k _ e (by intro v; simp), H, i⟩

theorem ex {m : Str → Option Value} {y z : Str} {v v' : Option Value} (hne : y ≠ z) (h : m y = v) : (if y = z then v' else m y) = v := by
  rw [if_neg hne]; exact h

theorem foldl_addU_len : ∀ (W V : List Int), (W.foldl addU V).length ≤ V.length + W.length
  | [], V => Nat.le_refl _
  | i :: W, V => by
    have h := foldl_addU_len W (addU V i)
    have e : (addU V i).length ≤ V.length + 1 := by unfold addU; split <;> simp
    rw [List.foldl_cons, List.length_cons]
    omega
theorem uniqL_len (V : List Int) : (uniqL V).length ≤ V.length := by
  have := foldl_addU_len V []
  unfold uniqL; simpa using this

theorem law_kind (P : Params) {y : Str} (hy : y ∈ [("a" : Str), "b", "c"]) : (lawScope P).names.lookup y = some .local := by
  simp only [List.mem_cons, List.not_mem_nil, or_false] at hy
  refine law_at (P := P) (G := fun _ scope => scope.names.lookup y = some .local) (by rfl) ?_
  rcases hy with rfl | rfl | rfl <;> rfl
theorem law_fn (P : Params) : (lawScope P).kind = .function := law_at (P := P) (G := fun _ scope => scope.kind = .function) (by rfl) rfl

theorem law_run {w : World} {s : Shared} {E : Value → Shared → Prop} {Q : Flow → Shared → Prop} {p : Program} {loose : List Str} {mean : ExcName → Option Value} {mg mb : Str → Option Value} {g : Heap} {L fa l0 : Addr} {cd : Value} {m : Str → Option Value} {oH oR oS : Obj} {vs : List Value} {W : List Int}
    (X : (hd.heap_39 w.params).In g) (T : Top p loose mean mg mb g) (F : Fr g L s.heap m) (N : News g L s.heap [(L + 1 + 1 + 1, oH), (L + 1 + 1, oR), (L + 1, oS)])
    (dH : oH.data = .cell none) (dR : oR.data = .cell none) (dS : oS.data = .cell (some (.ref l0))) (hL : g.IsList l0 vs.toArray) (hI : IntsAre vs W) (hW : W.length < 64)
    (hQ : ∀ h' tk, Stays g h' → Q (.ret (.bool true)) { s with heap := h', toks := tk }) :
    wpAny (model PySem.Challenge.rw_ae5044_01.row.prog w) (callerA.deeper (lawEnv w.params L fa cd)) (execs (lawBody w.params) (lawEnv w.params L fa cd)) Q E s := by
  rw [law_all]
  refine wpAny_execs_cons (law_s0 X T F N dH dR dS hL hI hW fun h0 tk0 more rl ys n oR' F0 N0 dR' hrl hrows => ?_)
  dsimp only
  refine wpAny_execs_cons (law_s1 (s := ⟨h0, _, _, _, _⟩) X T F0 N0 dR' hrl hrows fun h1 tk1 more1 a b c F1 N1 sub1 Oa Ob Oc => ?_)
  dsimp only
  -- the rows
  obtain ⟨r0, us0, n0, y0, m0, i0⟩ := hrows.2 0 (by decide)
  obtain ⟨r1, us1, n1, y1, m1, i1⟩ := hrows.2 1 (by decide)
  obtain ⟨r2, us2, n2, y2, m2, i2⟩ := hrows.2 2 (by decide)
  obtain rfl : ys = [.ref r0, .ref r1, .ref r2] := by
    have hl := hrows.1
    match ys, hl with
    | [a, b, c], _ =>
      simp at y0 y1 y2
      rw [y0, y1, y2]
  have len0 := rowL_len W 0
  have len1 := rowL_len W 1
  have len2 := rowL_len W 2
  have sm1 := rowL_small W (k := 1) (by decide)
  clear hrows y0 y1 y2
  generalize rowL W 0 = R0 at *
  generalize rowL W 1 = R1 at *
  generalize rowL W 2 = R2 at *
  have nA : (uniqL R0).Nodup := nodup_uniqL R0
  have nB : (uniqL R1).Nodup := nodup_uniqL R1
  have nC : (uniqL R2).Nodup := nodup_uniqL R2
  obtain ⟨M1, F1, ma, mb', mc⟩ : ∃ M1 : Str → Option Value, Fr g L h1 M1 ∧ M1 "a" = some (.ref a) ∧ M1 "b" = some (.ref b) ∧ M1 "c" = some (.ref c) := ⟨_, F1, rfl, rfl, rfl⟩
  have hrl1 := sub1 _ hrl
  have hm0 := sub1 _ m0
  have hm1 := sub1 _ m1
  have hm2 := sub1 _ m2
  -- alike
  refine wpAny_execs_cons (law_s2 (s := ⟨h1, _, _, _, _⟩) X T F1 N1 ma mb' mc Oa Ob Oc fun h2 tk2 more2 D2 vs2 F2 N2 sub2 hD2 P2 => ?_)
  dsimp only
  have l2 : vs2.length ≤ 1000 := by rw [P2.length]; simp [alikeL]
  refine wpAny_execs_cons (law_s3 (s := ⟨h2, _, _, _, _⟩) X T F2 N2 (if_pos rfl) hD2 P2 l2 (alike_ok nA nB nC) fun h3 tk3 F3 N3 => ?_)
  dsimp only
  obtain ⟨M2, F3, ma2, mb2, mc2⟩ : ∃ M2 : Str → Option Value, Fr g L h3 M2 ∧ M2 "a" = some (.ref a) ∧ M2 "b" = some (.ref b) ∧ M2 "c" = some (.ref c) := ⟨_, F3, ex (by decide) ma, ex (by decide) mb', ex (by decide) mc⟩
  -- sets
  refine wpAny_execs_cons (law_s4 (s := ⟨h3, _, _, _, _⟩) X T F3 N3 ma2 mb2 mc2 (Oa.mono sub2) (Ob.mono sub2) (Oc.mono sub2) fun h4 tk4 more4 D4 vs4 F4 N4 sub4 hD4 P4 => ?_)
  dsimp only
  have l4 : vs4.length ≤ 1000 := by rw [P4.length]; simp [setsL]
  refine wpAny_execs_cons (law_s5 (s := ⟨h4, _, _, _, _⟩) X T F4 N4 (if_pos rfl) hD4 P4 l4 (sets_ok nA nB nC) fun h5 tk5 F5 N5 => ?_)
  dsimp only
  obtain ⟨M4, F5, ma4, mb4, mc4⟩ : ∃ M4 : Str → Option Value, Fr g L h5 M4 ∧ M4 "a" = some (.ref a) ∧ M4 "b" = some (.ref b) ∧ M4 "c" = some (.ref c) := ⟨_, F5, ex (by decide) ma2, ex (by decide) mb2, ex (by decide) mc2⟩
  have sub14 : ∀ q ∈ more1, q ∈ more4 := fun q hq => sub4 q (sub2 q hq)
  have Oa4 := Oa.mono sub14
  have Ob4 := Ob.mono sub14
  have Oc4 := Oc.mono sub14
  have hrl4 := sub14 _ hrl1
  have hr04 := sub14 _ hm0
  have hr14 := sub14 _ hm1
  have hr24 := sub14 _ hm2
  -- first
  have N5' : News g L h5 ((rl, liObj [.ref r0, .ref r1, .ref r2] n) :: (r0, liObj us0 n0) :: (L + 1 + 1 + 1, oH) :: (L + 1 + 1, oR') :: (L + 1, oS) :: more4) := Mine.News.sub N5 fun q hq => by
    simp only [List.mem_cons] at hq ⊢
    rcases hq with rfl | rfl | h | h | h | h
    · simp [hrl4]
    · simp [hr04]
    · simp [h]
    · simp [h]
    · simp [h]
    · simp [h]
  refine wpAny_execs_cons (law_s6 (s := ⟨h5, _, _, _, _⟩) X T F5 N5' dR' i0 len0 fun h6 tk6 D6 fs k6 F6 N6 hf => ?_)
  dsimp only
  obtain ⟨M6, F6, m6, ma6, mb6, mc6⟩ : ∃ M6 : Str → Option Value, Fr g L h6 M6 ∧ M6 "first" = some (.ref D6) ∧ M6 "a" = some (.ref a) ∧ M6 "b" = some (.ref b) ∧ M6 "c" = some (.ref c) := ⟨_, F6, rfl, ex (by decide) ma4, ex (by decide) mb4, ex (by decide) mc4⟩
  have N6' : News g L h6 ((D6, liObj fs k6) :: (rl, liObj [.ref r0, .ref r1, .ref r2] n) :: (r1, liObj us1 n1) :: (L + 1 + 1 + 1, oH) :: (L + 1 + 1, oR') :: (L + 1, oS) :: more4) := Mine.News.sub N6 fun q hq => by
    simp only [List.mem_cons] at hq ⊢
    rcases hq with h | rfl | rfl | h | h | h | h
    · simp [h]
    · simp [hrl4]
    · simp [hr14]
    · simp [h]
    · simp [h]
    · simp [h]
    · simp [h]
  refine wpAny_execs_cons (law_s7 (s := ⟨h6, _, _, _, _⟩) (VB := []) X T F6 N6' dR' hf i1 len1 m6 ma6 mb6 mc6 Oa4 Ob4 Oc4 sm1 fun h7 tk7 F7 N7 => ?_)
  dsimp only
  have N7' : News g L h7 ((L + 1 + 1 + 1, oH) :: (L + 1 + 1, oR') :: (L + 1, oS) :: more4) := Mine.News.sub N7 fun q hq => .tail _ (.tail _ (.tail _ hq))
  -- a ^ a, a - a
  refine wpAny_execs_cons (law_s8 (s := ⟨h7, _, _, _, _⟩) (a := a) (b := b) (c := c) (VA := uniqL R0) (VB := uniqL R1) (VC := uniqL R2) X T F7 N7' ?_ ?_ fun h8 tk8 F8 N8 => ?_)
  · rintro sc rfl
    refine ⟨rfl, law_fn w.params, fun q hq => ?_⟩
    simp only [List.mem_cons, List.not_mem_nil, or_false] at hq
    rcases hq with rfl | rfl | rfl
    · exact ⟨law_kind w.params (by simp), (show (("a" : Str) == ("__debug__" : Str)) = false by decide), ma6⟩
    · exact ⟨law_kind w.params (by simp), (show (("b" : Str) == ("__debug__" : Str)) = false by decide), mb6⟩
    · exact ⟨law_kind w.params (by simp), (show (("c" : Str) == ("__debug__" : Str)) = false by decide), mc6⟩
  · intro q hq
    simp only [List.mem_cons, List.not_mem_nil, or_false] at hq
    rcases hq with rfl | rfl | rfl
    · exact Oa4.mono fun z hz => .tail _ (.tail _ (.tail _ hz))
    · exact Ob4.mono fun z hz => .tail _ (.tail _ (.tail _ hz))
    · exact Oc4.mono fun z hz => .tail _ (.tail _ (.tail _ hz))
  dsimp only
  -- the loop
  have inl : ∀ q ∈ more4, q ∈ (L + 1 + 1 + 1, oH) :: (L + 1 + 1, oR') :: (L + 1, oS) :: more4 := fun q hq => .tail _ (.tail _ (.tail _ hq))
  have keep : ∀ q ∈ more4, (∀ v, q.2.data ≠ .cell v) → q ∈ more4.filter fun q => q.1 != L + 1 + 1 + 1 := fun q hq hn => List.mem_filter.mpr ⟨hq, by simpa using not_cell N8 (.head _) (inl q hq) dH hn⟩
  have Oa9 := OSn.cut N8 (.head _) dH inl Oa4
  have Ob9 := OSn.cut N8 (.head _) dH inl Ob4
  have Oc9 := OSn.cut N8 (.head _) dH inl Oc4
  have hrl9 := keep _ hrl4 (by intro v; simp)
  have hr09 := keep _ hr04 (by intro v; simp)
  have hr19 := keep _ hr14 (by intro v; simp)
  have hr29 := keep _ hr24 (by intro v; simp)
  have hmH : ∀ q ∈ (more4.filter fun q => q.1 != L + 1 + 1 + 1), q.1 ≠ L + 1 + 1 + 1 := fun q hq => by simpa using (List.mem_filter.mp hq).2
  have N8' : News g L h8 ((L + 1 + 1 + 1, oH) :: (L + 1 + 1, oR') :: (L + 1, oS) :: more4.filter fun q => q.1 != L + 1 + 1 + 1) := Mine.News.sub N8 fun q hq => by
    simp only [List.mem_cons] at hq ⊢
    rcases hq with h | h | h | h
    · simp [h]
    · simp [h]
    · simp [h]
    · exact .inr (.inr (.inr (List.mem_filter.mp h).1))
  generalize (more4.filter fun q => q.1 != L + 1 + 1 + 1) = more9 at *
  refine wpAny_execs_cons (law_s9 (s := ⟨h8, _, _, _, _⟩) X T F8 N8' dH ma6 mb6 Oa9 Ob9 (Nat.lt_of_le_of_lt (uniqL_len R1) (by omega)) hmH fun h9 tk9 m9 oH9 vH9 F9 hm9 N9 dH9 => ?_)
  dsimp only
  -- the answer
  have N9' : News g L h9 ((rl, liObj [.ref r0, .ref r1, .ref r2] n) :: (r0, liObj us0 n0) :: (r1, liObj us1 n1) :: (r2, liObj us2 n2) :: (L + 1 + 1 + 1, oH9) :: (L + 1 + 1, oR') :: (L + 1, oS) :: more9) := Mine.News.sub N9 fun q hq => by
    simp only [List.mem_cons] at hq ⊢
    rcases hq with rfl | rfl | rfl | rfl | h | h | h | h
    · simp [hrl9]
    · simp [hr09]
    · simp [hr19]
    · simp [hr29]
    · simp [h]
    · simp [h]
    · simp [h]
    · simp [h]
  refine wpAny_execs_cons ?_
  exact law_s10 (s := ⟨h9, _, _, _, _⟩) X T F9 N9' dR' i0 i1 i2 len0 len1 len2 ((hm9 "a" (by decide) (by decide)).trans ma6) ((hm9 "b" (by decide) (by decide)).trans mb6) ((hm9 "c" (by decide) (by decide)).trans mc6) Oa9 Ob9 Oc9 fun h' tk k => hQ h' tk k
end Mine

end

section
open PySem PySem.W PyProof.Rows PySem.Calls
namespace Mine
theorem law_to {P : Params} {name qual : Str} {params : Arguments} {body : List Stmt} {scope : Scope} {dV kV doc pm cdv ct oc : Value} {an od : Option Addr} {osl : Array (Option Value)} {G : List Stmt → Scope → Prop}
    (ho : (hd.heap_39 P).lookup 240 = some ⟨oc, od, .func (fnOf name qual params body scope dV kV doc pm an cdv ct), osl⟩) (h : G (lawBody P) (lawScope P)) : G body scope := by
  have e1 : lawBody P = body := by rw [lawBody_eq, ho]
  have e2 : lawScope P = scope := by unfold lawScope; rw [ho]
  rw [e1, e2] at h; exact h
local macro_rules | `(tactic| walk_at "execs cons") => `(tactic| refine Mine.halt_at ?_)
theorem law_holds : PySem.Challenge.rw_ae5044_01.Holds := hd (by
  w_strict (k_go0)
  rename_i w s₀ s₁ mg mb G Y fa o pm doc ho hg KX X V GL T B TE TW q1 q2 M q3 q4 hcd W hs hlay0 hL1 hr1 hl2 q5 q6 l0 vs q7 hL ra w1 r0 hI hr hc1 hc2 K0 hD h₁ tk₁ F oH oR oS dH dR dS N0 X0
  refine law_to (P := w.params) (G := fun body scope => wpAny (model PySem.Challenge.rw_ae5044_01.row.prog w) (callerA.deeper (envOfC "law" scope s₁.heap.objs.size _ _)) (execs body (envOfC "law" scope s₁.heap.objs.size _ _)) _ _ _) (by rfl) ?_
  refine law_run (l0 := l0) (vs := vs) (W := W) (oH := oH) (oR := oR) (oS := oS) KX T F N0 (by exact dH) (by exact dR) (by exact dS) hL hI (by omega) fun h' tk k => ?_
  refine ⟨.inl ⟨.bool true, .bool true, [], rfl, raisesW_false ?hn, .bool true, ?hp, unshared_nil⟩, k, rfl, hg⟩
  case hn => wrow_none_raised
  case hp => refine' postW_of ?s1 ?v1 ?e1; (case s1 => o_shape); (case v1 => wtm_val); (case e1 => w_fin))
end Mine

end

theorem PySem.Challenge.cw_ae5044_01_holds : PySem.Challenge.rw_ae5044_01.Holds := by
  exact Mine.law_holds
