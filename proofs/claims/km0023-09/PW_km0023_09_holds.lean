import PyProof.Rows.All
import Wide.All
import OpenK.AllK
import Wide.FinOn
import Lean
import PySem.Challenge.RW_km0023_09
set_option Elab.async false
set_option maxRecDepth 100000
set_option linter.unusedVariables false
section
open PySem PySem.W PyProof.Rows
open PySem.Builtin._codecs
namespace Mine

def lo (l : List Nat) : Nat := (l.takeWhile (fun c => decide (c < 256))).length
def hi (l : List Nat) : Nat := lo l + ((l.drop (lo l)).takeWhile (fun c => !decide (c < 256))).length

theorem findIdx_getD {p : Nat → Bool} : ∀ l : List Nat, (l.findIdx? p).getD l.length = (l.takeWhile (fun a => !p a)).length
  | [] => rfl
  | a :: l => by
    rw [List.findIdx?_cons, List.takeWhile_cons]
    cases h : p a
    · have := findIdx_getD (p := p) l
      simp only [Bool.not_false, Bool.false_eq_true, if_false, if_true, List.length_cons]
      rw [← this]
      cases l.findIdx? p <;> simp
    · simp

theorem afindIdx_getD {p : Nat → Bool} (a : Array Nat) : (a.findIdx? p).getD a.size = (a.toList.takeWhile (fun c => !p c)).length := by
  obtain ⟨l⟩ := a; rw [← findIdx_getD, List.findIdx?_toArray]; simp

theorem bytes_fold (l : List Nat) (acc : Array UInt8) : l.foldl (fun acc y => acc ++ (latin1Codec.bytesOf y).toArray) acc = acc ++ (l.map (·.toUInt8)).toArray := by
  induction l generalizing acc with
  | nil => simp
  | cons a l ih => rw [List.foldl_cons, ih]; simp [latin1Codec]

theorem bad_eq : latin1Codec.bad = fun c => decide (c ≥ 256) := rfl
theorem nbad_eq : (fun a => !latin1Codec.bad a) = fun c => decide (c < 256) := by funext c; rw [bad_eq]; by_cases h : c < 256 <;> simp [h] <;> omega

theorem nbad_eq2 : (fun a => !!latin1Codec.bad a) = fun c => !decide (c < 256) := by funext c; rw [bad_eq]; by_cases h : c < 256 <;> simp [h] <;> omega

theorem takeWhile_len_le {p : Nat → Bool} (l : List Nat) : (l.takeWhile p).length ≤ l.length := by
  induction l with
  | nil => simp
  | cons a l ih => rw [List.takeWhile_cons]; split <;> simp <;> omega

theorem lo_le (l : List Nat) : lo l ≤ l.length := takeWhile_len_le l

theorem takeWhile_good {p : Nat → Bool} : ∀ (l : List Nat) (i : Nat) (h : i < (l.takeWhile p).length) (h' : i < l.length), p l[i] = true
  | a :: l, i, h, h' => by
    rw [List.takeWhile_cons] at h
    split at h
    · cases i with
      | zero => assumption
      | succ i => exact takeWhile_good l i (by simpa using h) (by simpa using h')
    · simp at h
theorem lo_good (l : List Nat) (i : Nat) (h : i < lo l) (h' : i < l.length) : l[i] < 256 := by
  have := takeWhile_good l i h h'
  simpa using this
theorem takeWhile_stop {p : Nat → Bool} : ∀ (l : List Nat) (h : (l.takeWhile p).length < l.length), p l[(l.takeWhile p).length] = false
  | a :: l, h => by
    by_cases ha : p a = true
    · have h1 : ((a :: l).takeWhile p) = a :: l.takeWhile p := by rw [List.takeWhile_cons, if_pos ha]
      have := takeWhile_stop l (by rw [h1] at h; simpa using h)
      simpa [h1] using this
    · have h1 : ((a :: l).takeWhile p) = [] := by rw [List.takeWhile_cons, if_neg ha]
      simpa [h1] using ha
theorem lo_stop (l : List Nat) (h : lo l < l.length) : ¬ l[lo l] < 256 := by
  have := takeWhile_stop l h
  unfold lo
  simpa using this

theorem enc_narrow {M : Model} {A : Around} {E : Value → Shared → Prop} {s : Shared} {id : String} {self : Value} {x : Str} {Q : Array UInt8 → Shared → Prop}
    (hx : x.length ≤ sizeLine)
    (hok : lo x.cps.toList = x.cps.toList.length → Q (x.cps.toList.map (·.toUInt8)).toArray s)
    (hbad : lo x.cps.toList < x.cps.toList.length → ∀ Q' : PUnit → Shared → Prop, wpAny M A (raiseEncodeFault {} "latin-1" self (lo x.cps.toList) (hi x.cps.toList) "ordinal not in range(256)") Q' E s) :
    wpAny M A (encodeNarrow id latin1Codec none self x) Q E s := by
  unfold encodeNarrow
  simp only [Std.Legacy.Range.forIn_eq_forIn_range']
  refine wpAny_bind ?_
  have hlen : x.cps.toList.length = x.length := Array.length_toList
  refine wpAny_forIn_list _ (fun rest b s' => s' = s ∧ ((b = (0, #[], {}) ∧ rest.length = x.length) ∨
    (b = (lo x.cps.toList, ((x.cps.toList.take (lo x.cps.toList)).map (·.toUInt8)).toArray, {}) ∧ rest.length + 1 = x.length ∧ 0 < lo x.cps.toList))) _ ?_ ?_ _ _ ⟨rfl, .inl ⟨rfl, by simp [Std.Legacy.Range.size]⟩⟩
  · rintro y rest b s' ⟨rfl, hb⟩
    have hlo := lo_le x.cps.toList
    have hgood : ∀ i, i < lo x.cps.toList → ∃ c, x.cps[i]? = some c ∧ c < 256 := fun i hi => by
      have hi' : i < x.cps.toList.length := Nat.lt_of_lt_of_le hi hlo
      refine ⟨x.cps.toList[i], by rw [← Array.getElem?_toList, List.getElem?_eq_getElem hi'], ?_⟩
      exact lo_good _ _ hi hi'
    have hstrict : ((none : Option Str).getD (Str.ofString "strict")).toString = "strict" := by decide +kernel
    have hstop : ∀ i, i ≤ x.cps.size → lo x.cps.toList = i → i + (Array.findIdx? (fun y => !latin1Codec.bad y) (x.cps.extract i)).getD (x.cps.size - i) = hi x.cps.toList := fun i hi e => by
      subst e
      have e1 : x.cps.size - lo x.cps.toList = (x.cps.extract (lo x.cps.toList)).size := by simp
      rw [e1, afindIdx_getD]
      simp only [nbad_eq2, Array.toList_extract]
      unfold Mine.hi
      congr 3
      simp [List.extract_eq_take_drop, List.take_of_length_le]
    have hfault : ∀ {β : Type} (i : Nat) (st : Faults) (f : PUnit → Sem β) (Q' : β → Shared → Prop), i ≤ x.cps.size → i < x.cps.toList.length → lo x.cps.toList = i → st = {} →
        wpAny M A (do
          let r ← raiseEncodeFault st latin1Codec.name self i (i + (Array.findIdx? (fun y => !latin1Codec.bad y) (x.cps.extract i)).getD (x.cps.size - i)) latin1Codec.reason
          f r) Q' E s' := fun i st f Q' h1 h2 h3 h4 => by
      rw [hstop i h1 h3]
      subst h4; subst h3
      exact wpAny_bind (hbad h2 _)
    rcases hb with ⟨rfl, hr⟩ | ⟨rfl, hr, h0⟩
    · dsimp only
      rw [if_neg (by simp)]
      have hpos : 0 < x.cps.size := by have := List.length_cons (a := y) (as := rest); rw [hr] at this; have e : x.length = x.cps.size := rfl; omega
      rw [Array.getElem?_eq_getElem hpos]
      dsimp only
      have hpl : 0 < x.cps.toList.length := by simpa using hpos
      have e0 : x.cps[0] = x.cps.toList[0] := by simp
      by_cases hb : x.cps[0] < 256
      · rw [if_pos (by simp [bad_eq, hb])]
        refine wpAny_pure ⟨rfl, .inr ⟨?_, ?_, ?_⟩⟩
        · have e1 : (Array.findIdx? latin1Codec.bad x.cps.extract).getD x.cps.extract.size = lo x.cps.toList := by
            rw [afindIdx_getD, nbad_eq]; unfold lo; simp
          rw [e1, Nat.zero_add]
          refine congrArg _ (Prod.ext ?_ rfl)
          show Array.foldl _ _ _ = _
          rw [← Array.foldl_toList, bytes_fold]
          simp [List.extract_eq_take_drop]
        · rw [← hr]; rfl
        · rw [e0] at hb
          unfold lo
          cases hl : x.cps.toList with
          | nil => rw [hl] at hpl; simp at hpl
          | cons a l =>
            simp only [hl, List.getElem_cons_zero] at hb
            rw [List.takeWhile_cons, if_pos (by simpa using hb)]; simp
      · rw [if_neg (by simp [bad_eq]; omega)]
        refine wpAny_bind (wpAny_rule ?_)
        rw [hstrict]
        wp_step
        wp_step
        refine hfault 0 _ _ _ (Nat.zero_le _) hpl ?_ rfl
        cases hz : lo x.cps.toList with
        | zero => rfl
        | succ n => exact absurd (lo_good _ 0 (by rw [hz]; omega) hpl) (by rw [← e0]; exact hb)
    · dsimp only
      rw [if_neg (by simp; have : x.length ≤ sizeLine := hx; omega)]
      by_cases hb : lo x.cps.toList < x.cps.toList.length
      · have hst := lo_stop _ hb
        rw [← Array.getElem?_toList, List.getElem?_eq_getElem hb]
        dsimp only
        rw [if_neg (by simp only [bad_eq]; simpa using hst)]
        refine wpAny_bind (wpAny_rule ?_)
        rw [hstrict]
        wp_step
        wp_step
        exact hfault _ _ _ _ hlo hb rfl rfl
      · have he : lo x.cps.toList = x.cps.toList.length := by omega
        rw [← Array.getElem?_toList, List.getElem?_eq_none (by omega)]
        dsimp only
        refine wpAny_pure (wpAny_pure ?_)
        rw [he, List.take_length]
        exact hok he
  · rintro b s' ⟨rfl, hb⟩
    refine wpAny_pure ?_
    have hlo := lo_le x.cps.toList
    rcases hb with ⟨rfl, hr⟩ | ⟨rfl, hr, h0⟩
    · have : x.cps.toList = [] := List.length_eq_zero_iff.mp (by rw [hlen, ← hr]; rfl)
      simpa [this, lo] using hok
    · have he : lo x.cps.toList = x.cps.toList.length := by rw [List.length_nil] at hr; omega
      show Q _ _
      rw [he, List.take_length]
      exact hok he
end Mine
end
section
open PySem PySem.W PyProof.Rows
open PySem.Builtin.UnicodeEncodeError
namespace Mine

structure Up1 (a : Addr) (h h' : Heap) : Prop where
  same : ∀ b, b ≠ a → h'.get? b = h.get? b
  size : h'.objs.size = h.objs.size
theorem Up1.refl (a : Addr) (h : Heap) : Up1 a h h := ⟨fun _ _ => rfl, rfl⟩
theorem Up1.trans {a : Addr} {h₁ h₂ h₃ : Heap} (x : Up1 a h₁ h₂) (y : Up1 a h₂ h₃) : Up1 a h₁ h₃ :=
  ⟨fun b hb => (y.same b hb).trans (x.same b hb), y.size.trans x.size⟩
theorem Up1.update (a : Addr) (h : Heap) (f : Obj → Obj) : Up1 a h (h.update a f) :=
  ⟨fun b hb => Heap.get?_update_other h f (Ne.symm hb), by cases h; simp [Heap.update]⟩

section
variable {M : Model} {A : Around} {E : Value → Shared → Prop} {h : Heap} {g : Array GenState} {d : Drawn} {t : Nat} {os : OsState}

theorem wp_setMembers0 {a : Addr} {cls : Value} {dd : Option Addr} {sl : Array (Option Value)} {v0 v1 v2 v3 v4 v5 : Value} {m : Members} {Q : Unit → Shared → Prop}
    (ho : h.get? a = some ⟨cls, dd, .fields #[v0, v1, v2, v3, v4, v5], sl⟩)
    (hq : ∀ h', Up1 a h h' → h'.get? a = some ⟨cls, dd, .fields #[v0, v1, v2, v3, v4, v5, m.encoding, m.object, rawInt m.start, rawInt m.stop, m.reason], sl⟩ → Q () ⟨h', g, d, t, os⟩) :
    wpAny M A (setMembers (.ref a) m) Q E ⟨h, g, d, t, os⟩ := by
  unfold setMembers
  refine wpAny_updateFields (s := ⟨h, g, d, t, os⟩) ho rfl (hq _ (Up1.update ..) ((Heap.get?_update_self _ ho rfl).trans ?_)) ?_
  · simp [Obj.mapFields]
  · simp [sizeLine]
theorem wp_setMembers {a : Addr} {cls : Value} {dd : Option Addr} {sl : Array (Option Value)} {v0 v1 v2 v3 v4 v5 w0 w1 w2 w3 w4 : Value} {m : Members} {Q : Unit → Shared → Prop}
    (ho : h.get? a = some ⟨cls, dd, .fields #[v0, v1, v2, v3, v4, v5, w0, w1, w2, w3, w4], sl⟩)
    (hq : ∀ h', Up1 a h h' → h'.get? a = some ⟨cls, dd, .fields #[v0, v1, v2, v3, v4, v5, m.encoding, m.object, rawInt m.start, rawInt m.stop, m.reason], sl⟩ → Q () ⟨h', g, d, t, os⟩) :
    wpAny M A (setMembers (.ref a) m) Q E ⟨h, g, d, t, os⟩ := by
  unfold setMembers
  refine wpAny_updateFields (s := ⟨h, g, d, t, os⟩) ho rfl (hq _ (Up1.update ..) ((Heap.get?_update_self _ ho rfl).trans ?_)) ?_
  · simp [Obj.mapFields]
  · simp [sizeLine]

theorem wp_setField {a : Addr} {cls : Value} {dd : Option Addr} {sl : Array (Option Value)} {vs : Array Value} {i : Nat} {x : Value} {Q : Unit → Shared → Prop}
    (ho : h.get? a = some ⟨cls, dd, .fields vs, sl⟩) (hi : i < vs.size)
    (hq : ∀ h', Up1 a h h' → h'.get? a = some ⟨cls, dd, .fields (vs.setIfInBounds i x), sl⟩ → Q () ⟨h', g, d, t, os⟩) :
    wpAny M A (setField (.ref a) i x) Q E ⟨h, g, d, t, os⟩ :=
  wpAny_setField (s := ⟨h, g, d, t, os⟩) ho rfl hi (hq _ (Up1.update ..) (Heap.get?_update_self _ ho rfl))

theorem wp_members0 {a : Addr} {cls : Value} {dd : Option Addr} {sl : Array (Option Value)} {v0 v1 v2 v3 v4 v5 : Value} {Q : Members → Shared → Prop}
    (ho : h.get? a = some ⟨cls, dd, .fields #[v0, v1, v2, v3, v4, v5], sl⟩) (hq : Q {} ⟨h, g, d, t, os⟩) :
    wpAny M A (members (.ref a)) Q E ⟨h, g, d, t, os⟩ := by
  unfold members
  refine wpAny_bind (wpAny_fieldsOf (s := ⟨h, g, d, t, os⟩) ho rfl ?_)
  exact wpAny_pure hq
theorem wp_members {a : Addr} {cls : Value} {dd : Option Addr} {sl : Array (Option Value)} {v0 v1 v2 v3 v4 v5 en ob re : Value} {i j : Int} {ti tj : Tok} {Q : Members → Shared → Prop}
    (ho : h.get? a = some ⟨cls, dd, .fields #[v0, v1, v2, v3, v4, v5, en, ob, .int i ti, .int j tj, re], sl⟩) (hq : Q ⟨en, ob, i, j, re⟩ ⟨h, g, d, t, os⟩) :
    wpAny M A (members (.ref a)) Q E ⟨h, g, d, t, os⟩ := by
  unfold members
  refine wpAny_bind (wpAny_fieldsOf (s := ⟨h, g, d, t, os⟩) ho rfl ?_)
  exact wpAny_pure hq
end

abbrev ueArgs (en ob re : Str) (i j : Int) (t1 t2 t3 t4 t5 : Tok) : List Value := [.str en t1, .str ob t2, .int i t3, .int j t4, .str re t5]
abbrev ueObj (t : Addr) (tb cx ca su : Value) (en ob re : Str) (i j : Int) (t1 t2 t5 : Tok) : Obj :=
  { cls := .type "UnicodeEncodeError", data := .fields #[.ref t, tb, cx, ca, su, .none, .str en t1, .str ob t2, rawInt i, rawInt j, .str re t5] }

structure MadeU (h h' : Heap) (e t : Addr) (en ob re : Str) (i j : Int) (t1 t2 t3 t4 t5 : Tok) : Prop where
  keeps : ∀ b o, h.get? b = some o → h'.get? b = some o
  new : h.get? e = none
  newT : h.get? t = none
  exc : h'.get? e = some (ueObj t .none .none .none (.bool false) en ob re i j t1 t2 t5)
  tup : h'.get? t = some { cls := .type "tuple", data := .seq (ueArgs en ob re i j t1 t2 t3 t4 t5).toArray }

section
variable {M : Model} {A : Around} {E : Value → Shared → Prop} {h : Heap} {g : Array GenState} {d : Drawn} {t : Nat} {os : OsState}

theorem ue_init {e t0 : Addr} {en ob re : Str} {i j : Int} {t1 t2 t3 t4 t5 : Tok} {Q : Fin → Shared → Prop}
    (he : h.get? e = some { cls := .type "UnicodeEncodeError", data := .fields #[.ref t0, .none, .none, .none, .bool false, .none] })
    (hi : 0 ≤ i ∧ i < 2 ^ 63) (hj : 0 ≤ j ∧ j < 2 ^ 63)
    (hq : ∀ h' t', (∀ b o, b ≠ e → h.get? b = some o → h'.get? b = some o) → h.get? t' = none → h'.get? e = some (ueObj t' .none .none .none (.bool false) en ob re i j t1 t2 t5) →
      h'.get? t' = some { cls := .type "tuple", data := .seq (ueArgs en ob re i j t1 t2 t3 t4 t5).toArray } → Q (.done (.ret .none)) ⟨h', g, d, t, os⟩) :
    wpAny M A (Builtin.«UnicodeEncodeError.__init__» ⟨.ref e :: ueArgs en ob re i j t1 t2 t3 t4 t5, []⟩) Q E ⟨h, g, d, t, os⟩ := by
  unfold Builtin.«UnicodeEncodeError.__init__»
  dsimp only
  refine wpAny_bind ?_
  unfold beginInit
  dsimp only
  wp_step
  refine wpAny_bind (wpAny_field (s := ⟨h, g, d, t, os⟩) he rfl (x := .ref t0) rfl ?_)
  refine wpAny_bind (wpAny_newTuple (s := ⟨h, g, d, t, os⟩) ?_ (by simp [ueArgs, sizeLine]))
  have hlt := Heap.lt_size he
  have he0 := Heap.get?_push_of_some (h := h) { cls := .type "tuple", data := .seq (ueArgs en ob re i j t1 t2 t3 t4 t5).toArray } he
  have ht0 := Heap.get?_push_size h (o := { cls := .type "tuple", data := .seq (ueArgs en ob re i j t1 t2 t3 t4 t5).toArray }) rfl
  have hne : h.objs.size ≠ e := Nat.ne_of_gt hlt
  refine wpAny_bind (wp_setField he0 (by simp) fun h1 u1 e1 => ?_)
  replace e1 : h1.get? e = some ⟨.type "UnicodeEncodeError", none, .fields #[.ref h.objs.size, .none, .none, .none, .bool false, .none], #[]⟩ := e1
  refine wpAny_bind (wpAny_letGo ?_)
  rw [if_pos (show ((5 : Nat) == 5) = true from rfl)]
  refine wpAny_bind (wp_members0 e1 ?_)
  refine wpAny_bind (wp_setMembers0 e1 fun h2 u2 e2 => ?_)
  refine wpAny_bind (wpAny_letGo ?_)
  simp only [rawInt] at e2
  refine wpAny_bind (wp_members e2 ?_)
  refine wpAny_bind (wp_setMembers e2 fun h3 u3 e3 => ?_)
  refine wpAny_bind (wpAny_letGo ?_)
  simp only [rawInt] at e3
  refine wpAny_bind (wp_members e3 ?_)
  refine wpAny_bind (wp_setMembers e3 fun h4 u4 e4 => ?_)
  refine wpAny_bind (wpAny_letGo ?_)
  rw [if_neg (show ¬ (((ueArgs en ob re i j t1 t2 t3 t4 t5).length != 5) = true) by simp [ueArgs])]
  refine wpAny_pure ?_
  dsimp only
  refine wpAny_bind (wpAny_of_eq (a := ()) rfl ?_)
  refine wpAny_bind (wpAny_of_eq (a := ()) rfl ?_)
  refine wpAny_bind ?_
  unfold initRange sizeArgument
  simp only [rawInt] at e4
  have hni : ∀ {z : Int}, (0 ≤ z ∧ z < 2 ^ 63) → ¬ ((decide (z < -2 ^ 63) || decide (z ≥ 2 ^ 63)) = true) := fun {z} hz => by
    simp only [Bool.or_eq_true, decide_eq_true_eq, not_or]; omega
  refine wpAny_bind (wpAny_bind ?_)
  refine wpAny_of_eq (a := i) rfl ?_
  rw [if_neg (hni hi)]
  refine wpAny_pure (wpAny_bind (wp_members e4 (wpAny_bind (wp_setMembers e4 fun h5 u5 e5 => ?_))))
  simp only [rawInt] at e5
  refine wpAny_bind (wpAny_bind ?_)
  refine wpAny_of_eq (a := j) rfl ?_
  rw [if_neg (hni hj)]
  refine wpAny_pure (wpAny_bind (wp_members e5 (wp_setMembers e5 fun h6 u6 e6 => ?_)))
  simp only [rawInt] at e6
  refine wpAny_bind ?_
  refine wpAny_of_eq (a := ()) rfl ?_
  refine wpAny_bind (wp_members e6 (wpAny_bind (wp_setMembers e6 fun h7 u7 e7 => wpAny_pure ?_)))
  have u := (((((u1.trans u2).trans u3).trans u4).trans u5).trans u6).trans u7
  refine hq h7 h.objs.size (fun b o hb ho => (u.same b hb).trans (Heap.get?_push_of_some _ ho)) (Heap.get?_none_of_le (Nat.le_refl _)) e7 ((u.same _ hne).trans ht0)
end

theorem ue_new : ExcNewFacts "UnicodeEncodeError" "UnicodeEncodeError.__new__" where
  ends := by decide +kernel
  owner := by decide +kernel
  entry := entryFor_alias (id' := "BaseException.__new__") (by rw [fastTable_eq_tree]; kernel_rfl) (by first | rfl | decide +kernel) (by decide +kernel) (by rw [fastTable_eq_tree]; kernel_rfl)
  sub := by rw [isSubtype_type]; kernel_rfl
  notAttr := by rw [isSubtype_type]; kernel_rfl
  notName := by rw [isSubtype_type]; kernel_rfl
  made := by kernel_rfl
theorem ue_slot : Slot "UnicodeEncodeError" "__init__" "UnicodeEncodeError.__init__" :=
  .of (owner := "UnicodeEncodeError") (n := "__init__") (by rw [typeLookup_type, builtinLookup_eq_fast]; kernel_rfl) (by decide +kernel) (by decide +kernel) (by decide +kernel)
    (by first | exact .inl (by decide +kernel) | exact .inr (by decide +kernel)) (by rw [isSubtype_type]; kernel_rfl)
theorem ue_args (rest : List Value) : argsOk "UnicodeEncodeError.__init__" ⟨rest, []⟩ := by kernel_rfl
theorem ue_entry : entryFor table "UnicodeEncodeError.__init__" = some Builtin.«UnicodeEncodeError.__init__» := entryFor_of_tree (by kernel_rfl)
theorem ue_raise : ExcRaiseFacts "UnicodeEncodeError" where
  isExc := by rw [isSubtype_type]; kernel_rfl
  plainMeta := by kernel_rfl

section
variable {prog : Program} {w : World} {A : Around} {E : Value → Shared → Prop} {hp : Heap} {g : Array GenState} {d : Drawn} {tk : Nat} {os : OsState}
theorem ue_type_call {en ob re : Str} {i j : Int} {t1 t2 t3 t4 t5 : Tok} {Q : Fin → Shared → Prop} (hi : 0 ≤ i ∧ i < 2 ^ 63) (hj : 0 ≤ j ∧ j < 2 ^ 63)
    (h : ∀ h' e t, MadeU hp h' e t en ob re i j t1 t2 t3 t4 t5 → Q (.done (.ret (.ref e))) ⟨h', g, d, tk, os⟩) :
    wpAny (model prog w) A (Builtin.«type.__call__» ⟨.type "UnicodeEncodeError" :: ueArgs en ob re i j t1 t2 t3 t4 t5, []⟩) Q E ⟨hp, g, d, tk, os⟩ := by
  have hnt : (Value.type "UnicodeEncodeError" == Value.type "type") = false := by decide +kernel
  have hcan : ((Manifest.find? "UnicodeEncodeError").bind fun x => List.findSome? (fun t => (Manifest.find? t).bind fun b =>
    if b.noNew = true then some true else if (b.attrs.any fun x => x.fst == "__new__") = true then some false else none) x.mro).getD false = false := by kernel_rfl
  have hchk : checkTypeCall "UnicodeEncodeError" ⟨ueArgs en ob re i j t1 t2 t3 t4 t5, []⟩ = pure () := by kernel_rfl
  have hmro : mroOf (.type "UnicodeEncodeError") = pure [.type "UnicodeEncodeError", .type "UnicodeError", .type "ValueError", .type "Exception", .type "BaseException", .type "object"] := by rw [mroOf_type]; kernel_rfl
  have hmade : Bind.madeBy (.type "UnicodeEncodeError") = pure (some "UnicodeEncodeError.__new__") := by kernel_rfl
  wp_walk
  refine codeAny_call_builtin_code (Code.quiet_builtin _ (by decide +kernel)) (wpAny_of_eq (show checkBuiltinCall "UnicodeEncodeError.__new__" ⟨.type "UnicodeEncodeError" :: ueArgs en ob re i j t1 t2 t3 t4 t5, []⟩ = pure () by kernel_rfl) ?_)
  refine codeAny_exc_new ue_new ?_ (by simp [ueArgs, sizeLine])
  show wpAny _ _ _ _ _ _
  have hget : ((hp.push { cls := .type "tuple", data := .seq (ueArgs en ob re i j t1 t2 t3 t4 t5).toArray }).push
      { cls := .type "UnicodeEncodeError", data := .fields #[.ref hp.objs.size, .none, .none, .none, .bool false, .none] }).get? (hp.objs.size + 1) = some
      { cls := .type "UnicodeEncodeError", data := .fields #[.ref hp.objs.size, .none, .none, .none, .bool false, .none] } := by heap_get
  refine wpAny_bind (wpAny_isInstance ⟨_, hget, rfl⟩ ue_new.sub ?_)
  wp_step
  refine wpAny_bind (wpAny_holding (wpAny_callSpecial?_slot ⟨_, hget, rfl⟩ ue_slot (wpAny_call (codeAny_call_builtin ue_slot.plain ue_entry
    (ue_slot.check _ _ _ _ _ _ _ _ ⟨_, hget, rfl⟩ (ue_args _) ?_)))))
  refine ue_init hget hi hj fun h' t' k1 k2 k3 k4 => ?_
  wp_walk
  refine h h' (hp.objs.size + 1) t' ⟨fun b o hb => k1 b o (Nat.ne_of_lt (Nat.lt_succ_of_lt (Heap.lt_size hb))) (Heap.get?_push_of_some _ (Heap.get?_push_of_some _ hb)), Heap.get?_none_of_le (Nat.le_succ _), ?_, k3, k4⟩
  cases hq : hp.get? t' with
  | none => rfl
  | some o => rw [Heap.get?_push_of_some _ (Heap.get?_push_of_some _ hq)] at k2; cases k2

theorem ue_call {en ob re : Str} {i j : Int} {t1 t2 t3 t4 t5 : Tok} {Q : Value → Shared → Prop} (hi : 0 ≤ i ∧ i < 2 ^ 63) (hj : 0 ≤ j ∧ j < 2 ^ 63)
    (h : ∀ h' e t, MadeU hp h' e t en ob re i j t1 t2 t3 t4 t5 → Q (.ref e) ⟨h', g, d, tk, os⟩) :
    wpAny (model prog w) A (call (.type "UnicodeEncodeError") (ueArgs en ob re i j t1 t2 t3 t4 t5)) Q E ⟨hp, g, d, tk, os⟩ := by
  refine wpAny_call (codeAny_of_tree ?_)
  show wpAny _ _ (again (.builtin "type.__call__" ⟨.type "UnicodeEncodeError" :: ueArgs en ob re i j t1 t2 t3 t4 t5, []⟩)) _ _ _
  exact wpAny_pure ⟨Code.quiet_builtin _ (by decide +kernel), codeAny_builtin entry_typeCall (ue_type_call hi hj fun h' e t hm => h h' e t hm)⟩
end
end Mine
end
section
open PySem PySem.W PyProof.Rows
namespace Mine

def noHeap : Heap := {}
theorem noHeap_get (a : Addr) : noHeap.get? a = none := by simp [noHeap, Heap.get?]

structure Tch (xs fs : List Addr) (h h' : Heap) : Prop where
  keep : ∀ b o, h.get? b = some o → b ∉ xs → b ∉ fs → h'.get? b = some o
  slot : ∀ b o, h.get? b = some o → b ∉ xs → b ∈ fs → ∃ sl, h'.get? b = some { o with slots := sl }

theorem Tch.refl (xs fs : List Addr) (h : Heap) : Tch xs fs h h := ⟨fun _ _ e _ _ => e, fun _ o e _ _ => ⟨o.slots, e⟩⟩
theorem Tch.trans {xs fs : List Addr} {h₁ h₂ h₃ : Heap} (x : Tch xs fs h₁ h₂) (y : Tch xs fs h₂ h₃) : Tch xs fs h₁ h₃ :=
  ⟨fun b o e n m => y.keep b o (x.keep b o e n m) n m, fun b o e n m => by
    obtain ⟨sl, e1⟩ := x.slot b o e n m
    obtain ⟨sl2, e2⟩ := y.slot b _ e1 n m
    exact ⟨sl2, e2⟩⟩
theorem Tch.mono {xs ys fs : List Addr} {h h' : Heap} (x : Tch xs fs h h') (s : ∀ b ∈ xs, b ∈ ys) : Tch ys fs h h' :=
  ⟨fun b o e n m => x.keep b o e (fun q => n (s b q)) m, fun b o e n m => x.slot b o e (fun q => n (s b q)) m⟩
theorem Tch.of_stays {xs fs : List Addr} {h h' : Heap} (k : h.StaysIn h') : Tch xs fs h h' := ⟨fun b o e _ _ => k b o e, fun b o e _ _ => ⟨o.slots, k b o e⟩⟩
theorem Tch.of_up1 {a : Addr} {xs fs : List Addr} {h h' : Heap} (u : Up1 a h h') (ha : a ∈ xs) : Tch xs fs h h' :=
  ⟨fun b o e n _ => (u.same b fun q => n (q ▸ ha)).trans e, fun b o e n _ => ⟨o.slots, (u.same b fun q => n (q ▸ ha)).trans e⟩⟩
theorem Tch.of_slotsOnly {xs fs : List Addr} {h h' : Heap} (x : Heap.SlotsOnly fs h h') : Tch xs fs h h' :=
  ⟨fun b o e _ m => (x.2.1 b m).trans e, fun b o e _ _ => x.2.2 b o e⟩
theorem Tch.some {xs fs : List Addr} {h h' : Heap} (x : Tch xs fs h h') {b : Addr} {o : Obj} (e : h.get? b = some o) (n : b ∉ xs) : ∃ sl, h'.get? b = some { o with slots := sl } := by
  by_cases m : b ∈ fs
  · exact x.slot b o e n m
  · exact ⟨o.slots, x.keep b o e n m⟩
theorem Tch.none {fs : List Addr} {h h' : Heap} (x : Tch [] fs h h') {b : Addr} (e : h'.get? b = none) : h.get? b = none := by
  cases hq : h.get? b with
  | none => rfl
  | some o => obtain ⟨sl, e2⟩ := x.some hq (by simp); rw [e] at e2; cases e2
theorem Tch.fresh {xs fs : List Addr} {B h h' : Heap} (S : Tch [] fs B h) (x : Tch xs fs h h') (hx : ∀ a ∈ xs, B.get? a = Option.none) : Tch [] fs B h' := by
  have nx : ∀ b o, B.get? b = Option.some o → b ∉ xs := fun b o e q => by rw [hx b q] at e; cases e
  refine ⟨fun b o e n m => x.keep b o (S.keep b o e n m) (nx b o e) m, fun b o e n m => ?_⟩
  obtain ⟨sl, e1⟩ := S.slot b o e n m
  obtain ⟨sl2, e2⟩ := x.slot b _ e1 (nx b o e) m
  exact ⟨sl2, e2⟩
theorem Tch.ns {xs fs : List Addr} {h h' : Heap} (x : Tch xs fs h h') {L : Addr} {m : Str → Option Value} (n : L ∉ xs) (hn : h.Ns L m) : h'.Ns L m := by
  obtain ⟨o, es, ep, ho, hd, r⟩ := hn
  obtain ⟨sl, hs⟩ := x.some ho n
  exact ⟨_, es, ep, hs, hd, r⟩
theorem Tch.ff {xs fs : List Addr} {h h' base : Heap} (x : Tch xs fs h h') (hx : ∀ a ∈ xs, ∀ o, h.get? a = Option.some o → ∃ vs, o.data = .fields vs) {l : List Env} (hl : h.FunFrames base l) : h'.FunFrames base l :=
  hl.of_keeps fun b o hb hd => by
    obtain ⟨sl, e⟩ := x.some hb (fun q => by obtain ⟨vs, e⟩ := hx b q o hb; exact hd vs e)
    exact ⟨_, e, rfl⟩

def TB (h : Heap) (T : Addr) (fl : Value) : Prop := ∃ oT ts, h.get? T = some oT ∧ oT.data = .fields ts ∧ ts[3]? = some fl
theorem TB.fields {h : Heap} {T : Addr} {fl : Value} (x : TB h T fl) : ∀ o, h.get? T = some o → ∃ vs, o.data = .fields vs := fun o e => by
  obtain ⟨oT, ts, e1, e2, _⟩ := x
  rw [e1] at e; cases e; exact ⟨ts, e2⟩
theorem TB.ne {h : Heap} {T : Addr} {fl : Value} (x : TB h T fl) {l : List Env} {base : Heap} (hl : h.FunFrames base l) : T ∉ l.filterMap (·.frame) := fun q => by
  obtain ⟨oT, ts, e1, e2, _⟩ := x
  obtain ⟨_, o, ho, hnf⟩ := hl.mem q
  rw [e1] at ho; cases ho; exact hnf ts e2
theorem TB.tch {xs : List Addr} {h h' : Heap} {T : Addr} {fl : Value} {l : List Env} {base : Heap} (x : TB h T fl) (hl : h.FunFrames base l) (y : Tch xs (l.filterMap (·.frame)) h h') (hn : T ∉ xs) : TB h' T fl := by
  have nf := x.ne hl
  obtain ⟨oT, ts, e1, e2, e3⟩ := x
  exact ⟨oT, ts, y.keep T oT e1 hn nf, e2, e3⟩

section
variable {M : Model} {A : Around} {E : Value → Shared → Prop} {h : Heap} {g : Array GenState} {d : Drawn} {t : Nat} {os : OsState}
  {env : Env} {outer : List Env} {L e : Addr} {cls : Value} {dd : Option Addr} {sl : Array (Option Value)} {vs : Array Value} {base : Heap}

theorem ff_apart (hl : h.FunFrames base (env :: outer)) {a : Addr} {o : Obj} (he : h.get? a = some o) (hd : o.data = .fields vs) : a ∉ (env :: outer).filterMap (·.frame) := fun hm => by
  obtain ⟨_, o', ho, hnf⟩ := hl.mem hm
  rw [he] at ho; cases ho; exact hnf vs hd

theorem new_entry {head : Value} {hadNext : Bool} {Q : Unit → Shared → Prop} (hfr : A.frames = some (env :: outer)) (hl : h.FunFrames base (env :: outer)) (hf : env.frame = some L)
    (he : h.get? e = some ⟨cls, dd, .fields vs, sl⟩) (hsz : 1 < vs.size)
    (k : ∀ h' T, Tch [e] ((env :: outer).filterMap (·.frame)) h h' → h'.FunFrames base (env :: outer) → h.get? T = none → T ≠ e →
      h'.get? e = some ⟨cls, dd, .fields (vs.setIfInBounds 1 (.ref T)), sl⟩ → TB h' T (rawInt L) → Q () ⟨h', g, d, t, os⟩) :
    wpAny M A (do let a ← frameOf env; let pl ← entryPlaceOf L hadNext; let b ← EntryCells.newEntry head a .none (rawInt L) .none pl; setField (.ref e) 1 b) Q E ⟨h, g, d, t, os⟩ := by
  have hene := ff_apart hl he rfl
  refine wpAny_bind (wpAny_frameOf_fun (s := ⟨h, g, d, t, os⟩) hfr hl hf fun h₁ hs₁ => ?_)
  refine wpAny_bind (wpAny_entryPlaceOf fun pl hpl => ?_)
  unfold EntryCells.newEntry newFields
  refine wpAny_bind (wpAny_newObj_type ?_ (hpl.sizeOk5 _ _ _ _ _))
  have he₁ : h₁.get? e = some ⟨cls, dd, .fields vs, sl⟩ := (hs₁.2.1 e hene).trans he
  have he₂ := Heap.get?_push_of_some (h := h₁) { cls := .type "traceback", dict := none, data := .fields ([head, .ref L, .none, rawInt L, .none] ++ (if pl.isEmpty then List.replicate 6 Value.none else pl)).toArray } he₁
  have hT₂ := Heap.get?_push_size h₁ (o := { cls := .type "traceback", dict := none, data := .fields ([head, .ref L, .none, rawInt L, .none] ++ (if pl.isEmpty then List.replicate 6 Value.none else pl)).toArray }) rfl
  have hTe : h₁.objs.size ≠ e := Nat.ne_of_gt (Heap.lt_size he₁)
  refine wp_setField he₂ hsz fun h₃ u₃ e₃ => ?_
  have tch : Tch [e] ((env :: outer).filterMap (·.frame)) h h₃ :=
    ((Tch.of_slotsOnly hs₁).trans (Tch.of_stays fun b o hb => Heap.get?_push_of_some _ hb)).trans (Tch.of_up1 u₃ (List.mem_singleton.mpr rfl))
  refine k h₃ h₁.objs.size tch (tch.ff (fun a ha o ho => ?_) hl) ?_ hTe e₃ ⟨_, _, (u₃.same _ hTe).trans hT₂, rfl, ?_⟩
  · obtain rfl := List.mem_singleton.mp ha
    rw [he] at ho; cases ho; exact ⟨_, rfl⟩
  · exact Heap.get?_none_of_le (Nat.le_of_eq hs₁.1.symm)
  · simp

theorem note_first {Q : Unit → Shared → Prop} (hfr : A.frames = some (env :: outer)) (hl : h.FunFrames base (env :: outer)) (hf : env.frame = some L)
    (he : h.get? e = some ⟨cls, dd, .fields vs, sl⟩) (h1 : vs[1]? = some .none)
    (k : ∀ h' T, Tch [e] ((env :: outer).filterMap (·.frame)) h h' → h'.FunFrames base (env :: outer) → h.get? T = none → T ≠ e →
      h'.get? e = some ⟨cls, dd, .fields (vs.setIfInBounds 1 (.ref T)), sl⟩ → TB h' T (rawInt L) → Q () ⟨h', g, d, t, os⟩) :
    wpAny M A (noteFrame (.ref e) env) Q E ⟨h, g, d, t, os⟩ := by
  unfold noteFrame
  simp only [hf]
  refine wpAny_bind (wpAny_field (s := ⟨h, g, d, t, os⟩) he rfl h1 ?_)
  rw [if_neg (by decide)]
  exact new_entry hfr hl hf he (Array.getElem?_eq_some_iff.mp h1).1 k

theorem note_next {T : Addr} {Q : Unit → Shared → Prop} (hfr : A.frames = some (env :: outer)) (hl : h.FunFrames base (env :: outer)) (hf : env.frame = some L)
    (he : h.get? e = some ⟨cls, dd, .fields vs, sl⟩) (h1 : vs[1]? = some (.ref T)) (hT : TB h T .none) (hTe : T ≠ e)
    (k : ∀ h' T', Tch [e, T] ((env :: outer).filterMap (·.frame)) h h' → h'.FunFrames base (env :: outer) → h.get? T' = none → T' ≠ e →
      h'.get? e = some ⟨cls, dd, .fields (vs.setIfInBounds 1 (.ref T')), sl⟩ → TB h' T' (rawInt L) → Q () ⟨h', g, d, t, os⟩) :
    wpAny M A (noteFrame (.ref e) env) Q E ⟨h, g, d, t, os⟩ := by
  have hTf := hT.fields
  obtain ⟨oT, ts, hT1, hT2, hT3⟩ := hT
  unfold noteFrame
  simp only [hf]
  refine wpAny_bind (wpAny_field (s := ⟨h, g, d, t, os⟩) he rfl h1 ?_)
  rw [if_pos (show (Value.ref T != Value.none) = true from by simp)]
  refine wpAny_bind (wpAny_field (s := ⟨h, g, d, t, os⟩) hT1 hT2 hT3 ?_)
  rw [if_neg (show ¬ ((Value.none == rawInt L) = true) from by simp [rawInt])]
  refine wpAny_bind (wpAny_setField (s := ⟨h, g, d, t, os⟩) hT1 hT2 (Array.getElem?_eq_some_iff.mp hT3).1 ?_)
  have u := Up1.update T h (Obj.mapFields (·.setIfInBounds 3 Value.none))
  have t1 : Tch [e, T] ((env :: outer).filterMap (·.frame)) h (h.update T (Obj.mapFields (·.setIfInBounds 3 Value.none))) := Tch.of_up1 u (by simp)
  have hl1 := t1.ff (fun a ha o ho => by
    rcases List.mem_cons.mp ha with rfl | ha
    · rw [he] at ho; cases ho; exact ⟨_, rfl⟩
    · obtain rfl := List.mem_singleton.mp ha; exact hTf o ho) hl
  refine new_entry hfr hl1 hf ((u.same e (Ne.symm hTe)).trans he) (Array.getElem?_eq_some_iff.mp h1).1 fun h' T' t2 f2 n2 ne2 e2 tb2 => ?_
  refine k h' T' (t1.trans (t2.mono (by simp))) f2 ?_ ne2 e2 tb2
  by_cases q : T' = T
  · subst q
    rw [Heap.get?_update_self _ hT1 (Obj.isFreed_of_fields (Obj.data_mapFields hT2 _))] at n2; cases n2
  · rw [← u.same T' q]; exact n2

theorem note_again {T : Addr} {Q : Unit → Shared → Prop} (hf : env.frame = some L) (he : h.get? e = some ⟨cls, dd, .fields vs, sl⟩) (h1 : vs[1]? = some (.ref T)) (hT : TB h T (rawInt L))
    (k : Q () ⟨h, g, d, t, os⟩) : wpAny M A (noteFrame (.ref e) env) Q E ⟨h, g, d, t, os⟩ := by
  obtain ⟨oT, ts, hT1, hT2, hT3⟩ := hT
  exact wpAny_noteFrame_inFlight (s := ⟨h, g, d, t, os⟩) hf he rfl h1 hT1 hT2 hT3 k

theorem set_flight {T : Addr} {fl : Value} {fr : Option Addr} {Q : Unit → Shared → Prop} (he : h.get? e = some ⟨cls, dd, .fields vs, sl⟩) (h1 : vs[1]? = some (.ref T)) (hT : TB h T fl)
    (k : ∀ h', Up1 T h h' → TB h' T (fr.elim .none fun f => rawInt f) → Q () ⟨h', g, d, t, os⟩) :
    wpAny M A (setFlight (.ref e) fr) Q E ⟨h, g, d, t, os⟩ := by
  obtain ⟨oT, ts, hT1, hT2, hT3⟩ := hT
  have hsz : 3 < ts.size := (Array.getElem?_eq_some_iff.mp hT3).1
  unfold setFlight
  refine wpAny_bind (wpAny_field (s := ⟨h, g, d, t, os⟩) he rfl h1 ?_)
  rw [if_pos (show (Value.ref T != Value.none) = true from by simp)]
  refine wpAny_setField (s := ⟨h, g, d, t, os⟩) hT1 hT2 hsz (k _ (Up1.update ..) ⟨_, _, Heap.get?_update_self _ hT1 (Obj.isFreed_of_fields (Obj.data_mapFields hT2 _)), Obj.data_mapFields hT2 _, ?_⟩)
  simp [hsz]

theorem set_flight0 {fr : Option Addr} {Q : Unit → Shared → Prop} (he : h.get? e = some ⟨cls, dd, .fields vs, sl⟩) (h1 : vs[1]? = some .none)
    (k : Q () ⟨h, g, d, t, os⟩) : wpAny M A (setFlight (.ref e) fr) Q E ⟨h, g, d, t, os⟩ := by
  unfold setFlight
  refine wpAny_bind (wpAny_field (s := ⟨h, g, d, t, os⟩) he rfl h1 ?_)
  rw [if_neg (by decide)]
  exact wpAny_pure k
end
end Mine
end
section
open PySem PySem.W PyProof.Rows
open PySem.Builtin._codecs
namespace Mine

section
variable {prog : Program} {w : World} {A : Around} {E : Value → Shared → Prop} {h : Heap} {g : Array GenState} {d : Drawn} {t : Nat} {os : OsState}

theorem hi_le (l : List Nat) : hi l ≤ l.length := by
  unfold hi
  have h1 := takeWhile_len_le (p := fun c => !decide (c < 256)) (l.drop (lo l))
  have h2 := lo_le l
  rw [List.length_drop] at h1
  omega

theorem gm_encode {M : Model} {s : Shared} {x : Str} {tk : Tok} {pl : Sem Bool} {Q : Value × List Value → Shared → Prop} (hq : Q (.builtin "str.encode", [.str x tk]) s) :
    wpAny M A (getMethod (.str x tk) "encode" pl) Q E s := by
  with_reducible exact GM.of (.str x tk) (typeIs_str _ _ _) F.slot_str_encode F.type_str_encode GM.noRef hq

theorem call_encode {x : Str} {tx te : Tok} {Q : Value → Shared → Prop} (hh : A.handled = none) (hx : x.length ≤ sizeLine)
    (hok : lo x.cps.toList = x.cps.toList.length → ∀ tk, Q (.bytes (x.cps.toList.map (·.toUInt8)).toArray t) ⟨h, g, d, tk, os⟩)
    (hbad : lo x.cps.toList < x.cps.toList.length → ∀ h' e T t1 t3 t4 t5 tk,
      MadeU h h' e T (Str.ofString "latin-1") x (Str.ofString "ordinal not in range(256)") (lo x.cps.toList) (hi x.cps.toList) t1 tx t3 t4 t5 → E (.ref e) ⟨h', g, d, tk, os⟩) :
    wpAny (model prog w) A (call (.builtin "str.encode") [.str x tx, .str (Str.ofString "latin-1") te]) Q E ⟨h, g, d, t, os⟩ := by
  refine wpAny_call (codeAny_call_builtin F.slot_str_encode.plain F.entry_str_encode (F.slot_str_encode.check _ _ _ _ _ _ _ _ (typeIs_str _ _ _) (F.args_str_encode_2 _ _) ?_))
  unfold Builtin.«str.encode»
  wp_walk
  rw [if_neg (by decide +kernel)]
  show wpAny _ _ (if (Str.ofString "latin-1").cps.contains 0 = true then _ else _) _ _ _
  rw [if_neg (by decide +kernel)]
  refine wpAny_pure ?_
  dsimp only [Option.getD_some]
  wp_step
  refine wpAny_of_eq (a := none) rfl ?_
  wp_step
  unfold encodeRoad
  rw [show (normalName (Str.ofString "latin-1")).toString = "latin_1" by decide +kernel]
  wp_step
  have hhi : hi x.cps.toList ≤ x.cps.toList.length := hi_le _
  have hlen : x.cps.toList.length = x.length := Array.length_toList
  have hsl : sizeLine = 16777216 := rfl
  refine wpAny_bind (enc_narrow hx (fun hlo => ?_) fun hlo Q' => ?_)
  · have hm : wpAny (model prog w) A.in1 (mkBytes (List.map (fun x => x.toUInt8) x.cps.toList).toArray) (fun v s' => v = .bytes (List.map (fun x => x.toUInt8) x.cps.toList).toArray t ∧ s' = ⟨h, g, d, t + 1, os⟩) (fun _ _ => False) ⟨h, g, d, t, os⟩ := by
      unfold mkBytes
      rw [if_neg (by simp only [List.size_toArray, List.length_map]; omega)]
      wp_walk
      exact ⟨rfl, rfl⟩
    refine wpAny_mono hm (fun v s' hv => ?_) (fun _ _ x => x.elim)
    obtain ⟨rfl, rfl⟩ := hv
    exact wpAny_pure (hok hlo _)
  · unfold raiseEncodeFault
    refine wpAny_bind ?_
    wp_delta
    refine wpAny_bind (wpAny_mkStr' ?_ (by decide +kernel))
    refine wpAny_bind (wpAny_pure ?_)
    refine wpAny_bind (wpAny_mkInt' (wpAny_bind (wpAny_mkInt' (wpAny_bind (wpAny_mkStr' ?_ (by decide +kernel))))))
    refine ue_call ⟨by omega, by omega⟩ ⟨by omega, by omega⟩ fun h' e T hm => ?_
    exact wpAny_raiseNew_none hh (hbad hlo _ _ _ _ _ _ _ _ hm)
end
end Mine
end
section
open PySem PySem.W PyProof.Rows
namespace Mine
theorem slot_md_get : Slot "member_descriptor" "__get__" "member_descriptor.__get__" :=
  .of (owner := "member_descriptor") (n := "__get__") (by rw [typeLookup_type, builtinLookup_eq_fast]; kernel_rfl) (by decide +kernel) (by decide +kernel) (by decide +kernel)
    (by first | exact .inl (by decide +kernel) | exact .inr (by decide +kernel)) (by rw [isSubtype_type]; kernel_rfl)
theorem slot_md_set : Slot "member_descriptor" "__set__" "member_descriptor.__set__" :=
  .of (owner := "member_descriptor") (n := "__set__") (by rw [typeLookup_type, builtinLookup_eq_fast]; kernel_rfl) (by decide +kernel) (by decide +kernel) (by decide +kernel)
    (by first | exact .inl (by decide +kernel) | exact .inr (by decide +kernel)) (by rw [isSubtype_type]; kernel_rfl)
theorem entry_md_get : entryFor table "member_descriptor.__get__" = some Builtin.«member_descriptor.__get__» := entryFor_of_tree (by kernel_rfl)
theorem args_md_get (a b c : Value) : argsOk "member_descriptor.__get__" ⟨[a, b, c], []⟩ := by unfold argsOk; kernel_rfl

theorem attr_ue : ExcAttrFacts "UnicodeEncodeError" where
  ga := .of (owner := "BaseException") (n := "__getattribute__") (by rw [typeLookup_type, builtinLookup_eq_fast]; kernel_rfl) (by decide +kernel) (by decide +kernel) (by decide +kernel)
    (by first | exact .inl (by decide +kernel) | exact .inr (by decide +kernel)) (by rw [isSubtype_type]; kernel_rfl)
  lkArgs := by rw [typeLookup_type, builtinLookup_eq_fast]; kernel_rfl
  sub := by rw [isSubtype_type]; kernel_rfl

structure MemFacts (name : Str) (id : String) (b : Builtin) : Prop where
  lk : typeLookup (.type "UnicodeEncodeError") name = pure (some (.builtin id))
  ty : typeOf (.builtin id) = pure (.type "member_descriptor")
  entry : entryFor table id = some b
  owner : (".".intercalate (id.cutAt '.').dropLast) = "UnicodeEncodeError"
  quiet : ∀ args, (Code.builtin id args).quiet = true

section
variable {prog : Program} {w : World} {A : Around} {E : Value → Shared → Prop} {h : Heap} {g : Array GenState} {d : Drawn} {t t' : Nat} {os : OsState} {a : Addr} {o : Obj} {v : Value} {name : Str} {id : String} {b : Builtin}

theorem mem_get {R : Result → Shared → Prop} (F : MemFacts name id b) (hx : h.get? a = some o) (hc : o.cls = .type "UnicodeEncodeError")
    (hb : ∀ (A : Around) (Q : Fin → Shared → Prop) (E : Value → Shared → Prop), Q (.done (.ret v)) ⟨h, g, d, t', os⟩ → wpAny (model prog w) A (b ⟨[.ref a], []⟩) Q E ⟨h, g, d, t, os⟩)
    (hq : R (.ok (.ret v)) ⟨h, g, d, t', os⟩) :
    codeAny (model prog w) A (.call (.builtin "member_descriptor.__get__") ⟨[.builtin id, .ref a, .type "UnicodeEncodeError"], []⟩) R ⟨h, g, d, t, os⟩ := by
  have hT : (⟨h, g, d, t, os⟩ : Shared).TypeIs (.ref a) "UnicodeEncodeError" := ⟨_, hx, hc⟩
  have hT5 : (⟨h, g, d, t, os⟩ : Shared).TypeIs (.builtin id) "member_descriptor" := F.ty
  have f8 : isSubtype (.type "UnicodeEncodeError") (.type (".".intercalate (id.cutAt '.').dropLast)) = pure true := by rw [F.owner]; exact ue_new.sub
  refine codeAny_call_builtin slot_md_get.plain entry_md_get (slot_md_get.check _ _ _ _ _ _ _ _ hT5 (args_md_get _ _ _) ?_)
  repeat (any_goals (first | assumption | wp_step))
  refine ⟨F.quiet _, codeAny_builtin F.entry (hb _ _ _ ?_)⟩
  exact hq

theorem mem_entry {tk : Tok} {Q : Fin → Shared → Prop} (F : MemFacts name id b) (hx : h.get? a = some o) (hc : o.cls = .type "UnicodeEncodeError")
    (hb : ∀ (A : Around) (Q : Fin → Shared → Prop) (E : Value → Shared → Prop), Q (.done (.ret v)) ⟨h, g, d, t', os⟩ → wpAny (model prog w) A (b ⟨[.ref a], []⟩) Q E ⟨h, g, d, t, os⟩)
    (hq : Q (.done (.ret v)) ⟨h, g, d, t', os⟩) :
    wpAny (model prog w) A (Builtin.«object.__getattribute__» ⟨[.ref a, .str name tk], []⟩) Q E ⟨h, g, d, t, os⟩ := by
  have hT : (⟨h, g, d, t, os⟩ : Shared).TypeIs (.ref a) "UnicodeEncodeError" := ⟨_, hx, hc⟩
  have hT5 : (⟨h, g, d, t, os⟩ : Shared).TypeIs (.builtin id) "member_descriptor" := F.ty
  have f4 := F.lk
  have f5 := F.ty
  have f6 := slot_md_get.lookup
  have f7 := slot_md_set.lookup
  repeat (any_goals (first | assumption | wp_step))
  refine mem_get F hx hc hb ?_
  repeat (any_goals (first | assumption | wp_step))

theorem mem_call {tk : Tok} {R : Result → Shared → Prop} (F : MemFacts name id b) (hx : h.get? a = some o) (hc : o.cls = .type "UnicodeEncodeError")
    (hb : ∀ (A : Around) (Q : Fin → Shared → Prop) (E : Value → Shared → Prop), Q (.done (.ret v)) ⟨h, g, d, t', os⟩ → wpAny (model prog w) A (b ⟨[.ref a], []⟩) Q E ⟨h, g, d, t, os⟩)
    (hq : R (.ok (.ret v)) ⟨h, g, d, t', os⟩) :
    codeAny (model prog w) A (.call (.builtin "BaseException.__getattribute__") ⟨[.ref a, .str name tk], []⟩) R ⟨h, g, d, t, os⟩ :=
  codeAny_call_builtin attr_ue.ga.plain PySem.F.entry_bexc_ga (attr_ue.ga.check _ _ _ _ _ _ _ _ (show (⟨h, g, d, t, os⟩ : Shared).TypeIs (.ref a) "UnicodeEncodeError" from ⟨_, hx, hc⟩) (PySem.F.args_bexc_ga _ _) (mem_entry F hx hc hb hq))

theorem mem_by {tk : Tok} {fill expr : Bool} {Q : Value → Shared → Prop} (F : MemFacts name id b) (hv : handedOut v = pure v) (hx : h.get? a = some o) (hc : o.cls = .type "UnicodeEncodeError")
    (hb : ∀ (A : Around) (Q : Fin → Shared → Prop) (E : Value → Shared → Prop), Q (.done (.ret v)) ⟨h, g, d, t', os⟩ → wpAny (model prog w) A (b ⟨[.ref a], []⟩) Q E ⟨h, g, d, t, os⟩)
    (hq : Q v ⟨h, g, d, t', os⟩) : wpAny (model prog w) A (getAttrBy (.ref a) (.str name tk) fill expr) Q E ⟨h, g, d, t, os⟩ := by
  have hT : (⟨h, g, d, t, os⟩ : Shared).TypeIs (.ref a) "UnicodeEncodeError" := ⟨_, hx, hc⟩
  have f2 := attr_ue.ga.lookup
  have f3 := attr_ue.ga.bind (.ref a)
  have hx0 : (expr && onTheHeap (Value.builtin "BaseException.__getattribute__")) = false := by cases expr <;> rfl
  repeat (any_goals (first | assumption | wp_step))
  refine mem_call F hx hc hb ?_
  repeat (any_goals (first | assumption | wp_step))

theorem mem_attr {expr : Bool} {Q : Value → Shared → Prop} (F : MemFacts name id b) (hx : h.get? a = some o) (hc : o.cls = .type "UnicodeEncodeError") (hv : handedOut v = pure v)
    (hb : ∀ (A : Around) (Q : Fin → Shared → Prop) (E : Value → Shared → Prop), Q (.done (.ret v)) ⟨h, g, d, t', os⟩ → wpAny (model prog w) A (b ⟨[.ref a], []⟩) Q E ⟨h, g, d, t + 1, os⟩)
    (hq : Q v ⟨h, g, d, t', os⟩) : wpAny (model prog w) A (getAttr (.ref a) name expr) Q E ⟨h, g, d, t, os⟩ := by
  unfold getAttr
  repeat (any_goals (first | assumption | with_reducible apply mem_by F hv hx hc hb | wp_step))

theorem mem_objectGet {get : Builtin.UnicodeEncodeError.Members → Value} {v0 v1 v2 v3 v4 v5 en ob re : Value} {i j : Int} {ti tj : Tok} {cls : Value} {dd : Option Addr} {sl : Array (Option Value)} {Q : Fin → Shared → Prop}
    (ho : h.get? a = some ⟨cls, dd, .fields #[v0, v1, v2, v3, v4, v5, en, ob, .int i ti, .int j tj, re], sl⟩) (hu : Builtin.UnicodeEncodeError.isUnset (get ⟨en, ob, i, j, re⟩) = false)
    (hq : Q (.done (.ret (get ⟨en, ob, i, j, re⟩))) ⟨h, g, d, t, os⟩) :
    wpAny (model prog w) A (Builtin.UnicodeEncodeError.objectGet id get ⟨[.ref a], []⟩) Q E ⟨h, g, d, t, os⟩ := by
  unfold Builtin.UnicodeEncodeError.objectGet
  refine wpAny_bind (wp_members ho ?_)
  dsimp only
  rw [hu]
  exact wpAny_pure hq
theorem mem_sizeGet {get : Builtin.UnicodeEncodeError.Members → Int} {v0 v1 v2 v3 v4 v5 en ob re : Value} {i j : Int} {ti tj : Tok} {cls : Value} {dd : Option Addr} {sl : Array (Option Value)} {Q : Fin → Shared → Prop}
    (ho : h.get? a = some ⟨cls, dd, .fields #[v0, v1, v2, v3, v4, v5, en, ob, .int i ti, .int j tj, re], sl⟩)
    (hq : Q (.done (.ret (.int (get ⟨en, ob, i, j, re⟩) t))) ⟨h, g, d, t + 1, os⟩) :
    wpAny (model prog w) A (Builtin.UnicodeEncodeError.sizeGet id get ⟨[.ref a], []⟩) Q E ⟨h, g, d, t, os⟩ := by
  unfold Builtin.UnicodeEncodeError.sizeGet
  refine wpAny_bind (wp_members ho ?_)
  unfold retInt
  exact wpAny_bind (wpAny_mkInt' (wpAny_pure hq))

theorem mf_encoding : MemFacts "encoding" "UnicodeEncodeError.encoding" Builtin.«UnicodeEncodeError.encoding» where
  lk := by rw [typeLookup_type, builtinLookup_eq_fast]; kernel_rfl
  ty := by kernel_rfl
  entry := entryFor_of_tree (by kernel_rfl)
  owner := by rw [show "UnicodeEncodeError.encoding".cutAt '.' = ["UnicodeEncodeError", "encoding"] by first | rfl | decide +kernel]; decide +kernel
  quiet := fun _ => Code.quiet_builtin _ (by decide +kernel)
theorem mf_object : MemFacts "object" "UnicodeEncodeError.object" Builtin.«UnicodeEncodeError.object» where
  lk := by rw [typeLookup_type, builtinLookup_eq_fast]; kernel_rfl
  ty := by kernel_rfl
  entry := entryFor_of_tree (by kernel_rfl)
  owner := by rw [show "UnicodeEncodeError.object".cutAt '.' = ["UnicodeEncodeError", "object"] by first | rfl | decide +kernel]; decide +kernel
  quiet := fun _ => Code.quiet_builtin _ (by decide +kernel)
theorem mf_reason : MemFacts "reason" "UnicodeEncodeError.reason" Builtin.«UnicodeEncodeError.reason» where
  lk := by rw [typeLookup_type, builtinLookup_eq_fast]; kernel_rfl
  ty := by kernel_rfl
  entry := entryFor_of_tree (by kernel_rfl)
  owner := by rw [show "UnicodeEncodeError.reason".cutAt '.' = ["UnicodeEncodeError", "reason"] by first | rfl | decide +kernel]; decide +kernel
  quiet := fun _ => Code.quiet_builtin _ (by decide +kernel)
theorem mf_start : MemFacts "start" "UnicodeEncodeError.start" Builtin.«UnicodeEncodeError.start» where
  lk := by rw [typeLookup_type, builtinLookup_eq_fast]; kernel_rfl
  ty := by kernel_rfl
  entry := entryFor_of_tree (by kernel_rfl)
  owner := by rw [show "UnicodeEncodeError.start".cutAt '.' = ["UnicodeEncodeError", "start"] by first | rfl | decide +kernel]; decide +kernel
  quiet := fun _ => Code.quiet_builtin _ (by decide +kernel)
theorem mf_end : MemFacts "end" "UnicodeEncodeError.end" Builtin.«UnicodeEncodeError.end» where
  lk := by rw [typeLookup_type, builtinLookup_eq_fast]; kernel_rfl
  ty := by kernel_rfl
  entry := entryFor_of_tree (by kernel_rfl)
  owner := by rw [show "UnicodeEncodeError.end".cutAt '.' = ["UnicodeEncodeError", "end"] by first | rfl | decide +kernel]; decide +kernel
  quiet := fun _ => Code.quiet_builtin _ (by decide +kernel)

abbrev UeAt (h : Heap) (a : Addr) (v0 v1 v2 v3 v4 v5 : Value) (en ob re : Str) (i j : Int) (t1 t2 t5 : Tok) : Prop :=
  h.get? a = some { cls := .type "UnicodeEncodeError", data := .fields #[v0, v1, v2, v3, v4, v5, .str en t1, .str ob t2, rawInt i, rawInt j, .str re t5] }

section
variable {v0 v1 v2 v3 v4 v5 : Value} {en ob re : Str} {i j : Int} {t1 t2 t5 : Tok} {expr : Bool} {Q : Value → Shared → Prop}
theorem at_encoding (ho : UeAt h a v0 v1 v2 v3 v4 v5 en ob re i j t1 t2 t5) (hq : Q (.str en t1) ⟨h, g, d, t + 1, os⟩) : wpAny (model prog w) A (getAttr (.ref a) "encoding" expr) Q E ⟨h, g, d, t, os⟩ :=
  mem_attr mf_encoding ho rfl rfl (fun A Q E hq => mem_objectGet ho rfl hq) hq
theorem at_object (ho : UeAt h a v0 v1 v2 v3 v4 v5 en ob re i j t1 t2 t5) (hq : Q (.str ob t2) ⟨h, g, d, t + 1, os⟩) : wpAny (model prog w) A (getAttr (.ref a) "object" expr) Q E ⟨h, g, d, t, os⟩ :=
  mem_attr mf_object ho rfl rfl (fun A Q E hq => mem_objectGet ho rfl hq) hq
theorem at_reason (ho : UeAt h a v0 v1 v2 v3 v4 v5 en ob re i j t1 t2 t5) (hq : Q (.str re t5) ⟨h, g, d, t + 1, os⟩) : wpAny (model prog w) A (getAttr (.ref a) "reason" expr) Q E ⟨h, g, d, t, os⟩ :=
  mem_attr mf_reason ho rfl rfl (fun A Q E hq => mem_objectGet ho rfl hq) hq
theorem at_start (ho : UeAt h a v0 v1 v2 v3 v4 v5 en ob re i j t1 t2 t5) (hq : Q (.int i (t + 1)) ⟨h, g, d, t + 2, os⟩) : wpAny (model prog w) A (getAttr (.ref a) "start" expr) Q E ⟨h, g, d, t, os⟩ :=
  mem_attr mf_start ho rfl rfl (fun A Q E hq => mem_sizeGet ho hq) hq
theorem at_end (ho : UeAt h a v0 v1 v2 v3 v4 v5 en ob re i j t1 t2 t5) (hq : Q (.int j (t + 1)) ⟨h, g, d, t + 2, os⟩) : wpAny (model prog w) A (getAttr (.ref a) "end" expr) Q E ⟨h, g, d, t, os⟩ :=
  mem_attr mf_end ho rfl rfl (fun A Q E hq => mem_sizeGet ho hq) hq
theorem at_args {t0 : Addr} (ho : UeAt h a (.ref t0) v1 v2 v3 v4 v5 en ob re i j t1 t2 t5) (hq : Q (.ref t0) ⟨h, g, d, t + 1, os⟩) : wpAny (model prog w) A (getAttr (.ref a) "args" expr) Q E ⟨h, g, d, t, os⟩ :=
  args_attr attr_ue ho rfl rfl rfl hq
end
end
end Mine
end
section
open PySem PySem.W PyProof.Rows
open PySem.Builtin PySem.Builtin.Str
namespace Mine

def cut20 (x : Str) : Str := ⟨(x.cps.toList.take 20).toArray⟩
theorem str_ext {x y : Str} (h : x.cps.toList = y.cps.toList) : x = y := by
  obtain ⟨a⟩ := x; obtain ⟨b⟩ := y
  obtain ⟨a⟩ := a; obtain ⟨b⟩ := b
  simp at h; rw [h]
theorem cut20_short {x : Str} (h : x.length ≤ 20) : cut20 x = x := str_ext (by
  show x.cps.toList.take 20 = _
  rw [List.take_of_length_le]
  rw [Array.length_toList]; exact h)
theorem cut20_sub (x : Str) : strSub x 0 20 = cut20 x := str_ext (by
  rw [StrLaws.strSub_toList]; rfl)
theorem cut20_len (x : Str) : (cut20 x).length ≤ 20 := by
  show ((x.cps.toList.take 20).toArray).size ≤ 20
  simp; omega

section
variable {prog : Program} {w : World} {A : Around} {E : Value → Shared → Prop} {h : Heap} {g : Array GenState} {d : Drawn} {t : Nat} {os : OsState}

def spec20 : Float.FormatSpec := { align := 60, precision := some 20 }
theorem parse20 : Float.parseFormatSpec (Str.ofString ".20").cps.toList "str" 60 = .ok spec20 := by kernel_rfl

theorem fmt20 {x : Str} {tx u : Tok} {Q : Fin → Shared → Prop} (hq : ∀ k tk, Q (.done (.ret (.str (cut20 x) k))) ⟨h, g, d, tk, os⟩) :
    wpAny (model prog w) A (Builtin.«str.__format__» ⟨[.str x tx, .str (Str.ofString ".20") u], []⟩) Q E ⟨h, g, d, t, os⟩ := by
  unfold Builtin.«str.__format__»
  wp_walk
  rw [show ((Manifest.find? "str").elim "str" fun x => x.tpName) = "str" by kernel_rfl, parse20]
  have hf : strField x spec20 "str" = (if decide (20 ≥ x.length) = true then .ok none else .ok (some (padded (strSub x 0 20) (if ((60 : Nat) == 62) = true then 0 - (strSub x 0 20).length else if ((60 : Nat) == 94) = true then (0 - (strSub x 0 20).length) / 2 else 0) ((0 - (strSub x 0 20).length) - (if ((60 : Nat) == 62) = true then 0 - (strSub x 0 20).length else if ((60 : Nat) == 94) = true then (0 - (strSub x 0 20).length) / 2 else 0)) 32))) := rfl
  have hp : ∀ y : Str, padded y 0 0 32 = y := fun y => str_ext (by simp [padded])
  have hf2 : strField x spec20 "str" = .ok (if x.length ≤ 20 then none else some (cut20 x)) := by
    rw [hf]
    simp only [show ((60 : Nat) == 62) = false from rfl, show ((60 : Nat) == 94) = false from rfl, Bool.false_eq_true, if_false, Nat.zero_sub, hp, cut20_sub]
    by_cases hx : x.length ≤ 20 <;> simp [hx]
  have hc : (do
      let f ← (.ok spec20 : Except String Float.FormatSpec)
      have f : Float.FormatSpec :=
        if (f.type.isNone && (Str.ofString ".20").cps.back? == some 0) = true then
          { fill := f.fill, align := f.align, sign := f.sign, noNeg0 := f.noNeg0, alt := f.alt, width := f.width,
            grouping := f.grouping, precision := f.precision, type := some 0 }
        else f
      if tooLong (f.width.getD 0) = true then pure none
        else do
          let r ← strField x f "str"
          pure (some r)) = (.ok (some (if x.length ≤ 20 then none else some (cut20 x))) : Except String (Option (Option Str))) := by
    show (do let r ← strField x spec20 "str"; pure (some r) : Except String (Option (Option Str))) = _
    rw [hf2]; rfl
  rw [hc]
  by_cases hx : x.length ≤ 20
  · rw [if_pos hx]
    wp_walk
    have := hq tx t
    rw [cut20_short hx] at this
    exact this
  · rw [if_neg hx]
    have hl := cut20_len x
    have hsl : sizeLine = 16777216 := rfl
    show wpAny _ _ (retStr (cut20 x)) _ _ _
    unfold retStr
    exact wpAny_bind (wpAny_mkStr' (wpAny_pure (hq _ _)) (by omega))

theorem fmtField20 {x : Str} {tx : Tok} {Q : Value → Shared → Prop} (hq : ∀ k tk, Q (.str (cut20 x) k) ⟨h, g, d, tk, os⟩) :
    wpAny (model prog w) A (formatField (.str x tx) (Str.ofString ".20")) Q E ⟨h, g, d, t, os⟩ := by
  have e : formatField (.str x tx) (Str.ofString ".20") = holding [.str x tx] (pyFormat (.str x tx) (Str.ofString ".20")) := by
    have hne : ((Str.ofString ".20").length == 0) = false := by decide +kernel
    unfold formatField
    simp only [hne, Bool.false_eq_true, if_false] <;> rfl
  rw [e]
  refine wpAny_holding ?_
  unfold pyFormat
  refine wpAny_bind (wpAny_mkStr' ?_ (by decide +kernel))
  refine wpAny_bind (m := callSpecial? (.str x tx) (Str.ofString "__format__") [.str (Str.ofString ".20") t]) (wpAny_callSpecial?_slot (name := Str.ofString "__format__") (typeIs_str _ _ _) F.slot_str_format (wpAny_call (codeAny_call_builtin F.slot_str_format.plain F.entry_str_format
    (F.slot_str_format.check _ _ _ _ _ _ _ _ (typeIs_str _ _ _) (F.args_str_format_2 _ _) (fmt20 fun k tk => ?_)))))
  show wpAny _ _ _ _ _ _
  dsimp only
  exact wpAny_bind (wpAny_isInstance (T := "str") (b := true) (typeIs_str _ _ _) isSubtype_str_str (wpAny_pure (hq _ _)))

theorem FmtVal_r20 {env : Env} {value : PySem.Expr} {pos pos2 : Pos} {k : Nat} {Q : Value → Shared → Prop} {s : Shared}
    (hv : wpAny (model prog w) A (eval value env) (fun v s₁ => ∃ x tx, v = .str x tx ∧ (reprText x).length ≤ sizeLine ∧ ∀ k' tk, Q (.str (cut20 (reprText x)) k') { s₁ with toks := tk }) E s) :
    wpAny (model prog w) A (eval (.FormattedValue value 114 (some (.Constant (.str ".20") k pos2)) pos) env) Q E s := by
  rw [arm_eval_FormattedValue]
  refine wpAny_bind (wpAny_mono hv (fun v s₁ h₁ => ?_) fun _ _ x => x)
  obtain ⟨x, tx, rfl, hl, hq⟩ := h₁
  refine wpAny_bind (wpAny_standAt ?_)
  refine wpAny_bind (wpAny_holding ?_)
  show wpAny _ _ (pyReprObj (.str x tx)) _ _ _
  refine pyReprObj_str ?_ hl
  show wpAny _ _ (do
    let r ← holding [Value.str (reprText x) s₁.toks] (eval (.Constant (.str ".20") k pos2) env)
    match r with
    | .str sp _ => (do standAt pos; formatField (Value.str (reprText x) s₁.toks) sp)
    | _ => unsupported "internal:format-spec") Q E _
  refine wpAny_bind (wpAny_holding (Calls.Constant_str ?_))
  dsimp only
  exact wpAny_bind (wpAny_standAt (fmtField20 fun k' tk => hq k' tk))
end
end Mine
end
section
open PySem PySem.W PyProof.Rows
open PySem.Builtin PySem.Builtin.Str
namespace Mine

theorem entry_unchain : entryFor table "proto.unchain" = some Builtin.«proto.unchain» := entryFor_of_tree (by kernel_rfl)

section
variable {prog : Program} {w : World} {A : Around} {E : Value → Shared → Prop} {h : Heap} {g : Array GenState} {d : Drawn} {t : Nat} {os : OsState} {env : Env}

theorem raiseNew_in {e e1 : Addr} {cls cls1 : Value} {dd dd1 : Option Addr} {sl sl1 : Array (Option Value)} {vs vs1 : Array Value} {α : Type} {Q : α → Shared → Prop}
    (hh : A.handled = some (.ref e1)) (hne : e ≠ e1) (he : h.get? e = some ⟨cls, dd, .fields vs, sl⟩) (h2 : 2 < vs.size)
    (he1 : h.get? e1 = some ⟨cls1, dd1, .fields vs1, sl1⟩) (h12 : vs1[2]? = some .none)
    (hE : ∀ h', Up1 e h h' → h'.get? e = some ⟨cls, dd, .fields (vs.setIfInBounds 2 (.ref e1)), sl⟩ → E (.ref e) ⟨h', g, d, t, os⟩) :
    wpAny (model prog w) A (raiseNew (.ref e) : Sem α) Q E ⟨h, g, d, t, os⟩ := by
  unfold raiseNew
  refine wpAny_bind (wpAny_handled ?_)
  rw [hh]
  dsimp only
  rw [if_pos (by simp [Ne.symm hne])]
  refine wpAny_bind (wpAny_holding (wpAny_runValue (codeAny_builtin entry_unchain ?_)))
  unfold Builtin.«proto.unchain»
  dsimp only
  refine wpAny_bind (wpAny_field (s := ⟨h, g, d, t, os⟩) he1 rfl h12 ?_)
  rw [if_pos (show (Value.none == Value.none) = true from rfl)]
  refine wpAny_pure ?_
  dsimp only
  refine wpAny_bind ?_
  show wpAny (model prog w) A (setField (.ref e) 2 (.ref e1)) _ _ _
  exact wp_setField he h2 fun h' u e' => wpAny_throw (hE h' u e')

theorem raise_from_none {e1 : Addr} {x c : Sem Value} {Q : Flow → Shared → Prop} {s : Shared}
    (hh : A.handled = some (.ref e1)) (hc : ∀ (s : Shared) (Q : Value → Shared → Prop), Q .none s → wpAny (model prog w) A c Q E s)
    (hx : wpAny (model prog w) A x (fun v s₁ => ∃ (e t : Addr) (en ob re : Str) (i j : Int) (t1 t2 t5 : Tok) (cls1 : Value) (dd1 : Option Addr) (sl1 : Array (Option Value)) (vs1 : Array Value), v = .ref e ∧ e ≠ e1 ∧ s₁.heap.get? e = some (ueObj t .none .none .none (.bool false) en ob re i j t1 t2 t5) ∧
      s₁.heap.get? e1 = some ⟨cls1, dd1, .fields vs1, sl1⟩ ∧ vs1[2]? = some .none ∧
      ∀ h', Up1 e s₁.heap h' → h'.get? e = some (ueObj t .none (.ref e1) .none (.bool true) en ob re i j t1 t2 t5) → E (.ref e) { s₁ with heap := h' }) E s) :
    wpAny (model prog w) A (raiseStmt env (some x) (some c)) Q E s := by
  unfold raiseStmt
  refine wpAny_bind (wpAny_mono hx (fun v s₁ h₁ => ?_) fun _ _ x => x)
  obtain ⟨e, t, en, ob, re, i, j, t1, t2, t5, cls1, dd1, sl1, vs1, rfl, hne, he, he1, h12, hE⟩ := h₁
  obtain ⟨hp, g, d, tk, os⟩ := s₁
  refine wpAny_bind (wpAny_holding (hc _ _ ?_))
  refine wpAny_bind (wpAny_pure ?_)
  dsimp only
  have hsub := ue_raise.isExc
  have hmeta := ue_raise.plainMeta
  refine wpAny_bind (wpAny_holding ?_)
  unfold excFromValue isExcClass
  have hT : (⟨hp, g, d, tk, os⟩ : Shared).TypeIs (.ref e) "UnicodeEncodeError" := ⟨_, he, rfl⟩
  wp_step
  wp_step
  iterate 12 (first | with_reducible refine wpAny_loadPart_at he ?_ | wp_step)
  rw [if_pos (show (Value.none == Value.none) = true from rfl)]
  refine wpAny_bind (wpAny_pure ?_)
  refine wpAny_bind (wp_setField he (by simp) fun h3 u3 e3 => ?_)
  replace e3 : h3.get? e = some (ueObj t .none .none .none (.bool false) en ob re i j t1 t2 t5) := e3
  refine wpAny_bind (wp_setField e3 (by simp) fun h4 u4 e4 => ?_)
  replace e4 : h4.get? e = some (ueObj t .none .none .none (.bool true) en ob re i j t1 t2 t5) := e4
  have hT4 : (⟨h4, g, d, tk, os⟩ : Shared).TypeIs (.ref e) "UnicodeEncodeError" := ⟨_, e4, rfl⟩
  have u := u3.trans u4
  unfold isType loadHead
  iterate 5 (first | with_reducible refine wpAny_loadPart_at e4 ?_ | wp_step)
  unfold raisedInstance
  iterate 10 (first | with_reducible refine wpAny_loadPart_at e4 ?_ | wp_step)
  refine wpAny_bind (wpAny_field (s := ⟨h4, g, d, tk, os⟩) e4 rfl (x := .none) rfl ?_)
  rw [if_neg (show ¬ ((Value.none != Value.none) = true) by decide)]
  refine wpAny_pure ?_
  refine raiseNew_in hh hne e4 (by simp) ((u.same _ (Ne.symm hne)).trans he1) h12 fun h5 u5 e5 => ?_
  exact hE h5 (u.trans u5) e5

theorem habit_str {M : Model} {s : Shared} {row : String} {x : Str} {k : Tok} {Q : Value → Shared → Prop} (hx : x.length ≤ sizeLine) (hq : ∀ k tk, Q (.str x k) { s with toks := tk }) : wpAny M A (habitSame row (.str x k)) Q E s :=
  wpAny_habitSame_str (hq _ s.toks) (hq _ _) hx
theorem fmtField_str {s : Shared} {x : Str} {k : Tok} {Q : Value → Shared → Prop} (hx : x.length ≤ sizeLine) (hq : ∀ k tk, Q (.str x k) { s with toks := tk }) : wpAny (model prog w) A (formatField (.str x k) Str.empty) Q E s :=
  wpAny_formatField_str (hq _ s.toks) (hq _ _) hx
theorem FmtVal_s {s : Shared} {value : PySem.Expr} {pos : Pos} {Q : Value → Shared → Prop}
    (hv : wpAny (model prog w) A (eval value env) (fun v s₁ => ∃ x tx, v = .str x tx ∧ x.length ≤ sizeLine ∧ ∀ k tk, Q (.str x k) { s₁ with toks := tk }) E s) :
    wpAny (model prog w) A (eval (.FormattedValue value 115 none pos) env) Q E s := by
  refine wpAny_FormattedValue_s (wpAny_mono hv (fun v s₁ h₁ => ?_) fun _ _ x => x)
  obtain ⟨x, tx, rfl, hx, hq⟩ := h₁
  show wpAny _ _ (habitSame "fstring-hands-on-the-str" (.str x tx)) _ _ _
  exact habit_str hx fun k tk => fmtField_str hx fun k2 tk2 => hq k2 tk2
end
end Mine
end
section
open PySem PySem.W PyProof.Rows
open PySem.Builtin PySem.Builtin.Str
namespace Mine

abbrev pw : Program := PySem.Challenge.pw_km0023_09
def stmtAt (i : Nat) : Stmt := (pw.main.body[i]?).getD (.Pass ⟨0, 0, 0, 0⟩)
def bodyOf : Stmt → List Stmt
  | .FunctionDef _ _ body _ _ _ _ _ _ _ => body
  | _ => []
def scopeOf : Stmt → Scope
  | .FunctionDef _ _ _ _ _ _ scope _ _ _ => scope
  | _ => default
def paramsOf : Stmt → Arguments
  | .FunctionDef _ args _ _ _ _ _ _ _ _ => args
  | _ => default
def encBody : List Stmt := bodyOf (stmtAt 1)
def encScope : Scope := scopeOf (stmtAt 1)
def encParams : Arguments := paramsOf (stmtAt 1)
abbrev envE (L f : Addr) (cd : Value) : Env := envOf (Str.ofString "_encode") encScope L f cd

structure Names (B : Heap) : Prop where
  ex : ∃ mg mb, B.Ns mainGlobals mg ∧ mg "UnicodeEncodeError" = none ∧ B.Ns builtinsNs mb ∧ mb "UnicodeEncodeError" = some (.type "UnicodeEncodeError")

def mid (x : Str) (a b : Nat) : Str := ⟨((x.cps.toList.drop a).take (b - a)).toArray⟩
theorem slice_mid (x : Str) {a b : Nat} (hab : a ≤ b) (hb : b ≤ x.length) : Txt.slice x (some (a : Int)) (some (b : Int)) = mid x a b := StrLaws.sliceText_nat x hab hb
theorem lo_le_hi (l : List Nat) : lo l ≤ hi l := by unfold hi; omega
theorem mid_len (x : Str) (a b : Nat) : (mid x a b).length ≤ x.length := by
  show ((x.cps.toList.drop a).take (b - a)).toArray.size ≤ x.cps.size
  simp; omega
theorem mid_mem {x : Str} {a b c : Nat} (h : c ∈ (mid x a b).cps.toList) : c ∈ x.cps.toList := by
  have : c ∈ (x.cps.toList.drop a).take (b - a) := by simpa [mid] using h
  exact List.mem_of_mem_drop (List.mem_of_mem_take this)
def Fine (x : Str) : Prop := x.length ≤ 100000 ∧ ∀ c ∈ x.cps.toList, c < 16 ^ 8
theorem Fine.mid {x : Str} (h : Fine x) (a b : Nat) : Fine (mid x a b) := ⟨Nat.le_trans (mid_len x a b) h.1, fun c hc => h.2 c (mid_mem hc)⟩

def encWords (n x : Str) : Str :=
  Str.empty ++ Txt.title n ++ Str.ofString " (" ++ cut20 (reprText (mid x (lo x.cps.toList) (hi x.cps.toList))) ++ Str.ofString ") is not valid Latin-1. Use " ++ n ++
    Str.ofString ".encode('utf-8') if you want to send it encoded in UTF-8."

section
variable {prog : Program} {w : World} {A : Around} {E : Value → Shared → Prop} {h : Heap} {g : Array GenState} {d : Drawn} {tk : Nat} {os : OsState} {B S : Heap} {L f : Addr} {cd : Value} {outer : List Env} {m : Str → Option Value} {Q : Flow → Shared → Prop}
  {x n : Str} {tx tn : Tok}

structure Inv (B S : Heap) (outer : List Env) (L : Addr) (m : Str → Option Value) (h : Heap) : Prop where
  F : Fr B L h m
  K : Tch [] (outer.filterMap (·.frame)) S h

structure Und (B S : Heap) (outer : List Env) (L : Addr) : Prop where
  bs : B.StaysIn S
  bo : ∀ a ∈ outer.filterMap (·.frame), B.get? a = none
  sl : S.get? L = none
  so : S.FunFrames noHeap outer

theorem Und.bn (U : Und B S outer L) {a : Addr} (e : S.get? a = none) : B.get? a = none := by
  cases q : B.get? a with
  | none => rfl
  | some o => have := U.bs a o q; rw [e] at this; cases this
theorem Und.bl (U : Und B S outer L) : B.get? L = none := U.bn U.sl

theorem Inv.ff {env : Env} {h : Heap} (U : Und B S outer L) (hk : env.scope.kind ≠ .module) (hf : env.frame = some L) (I : Inv B S outer L m h) : h.FunFrames noHeap (env :: outer) :=
  Heap.FunFrames.cons hk hf I.F.ns (noHeap_get L) (I.K.ff (fun a ha => nomatch ha) U.so)
theorem Inv.fresh {h : Heap} (I : Inv B S outer L m h) {a : Addr} (e : h.get? a = none) : S.get? a = none := I.K.none e

theorem Inv.step {h h' : Heap} {xs : List Addr} (U : Und B S outer L) (I : Inv B S outer L m h) (x : Tch xs (L :: outer.filterMap (·.frame)) h h')
    (hx : ∀ a ∈ xs, S.get? a = none ∧ ∀ o, h.get? a = some o → ∃ vs, o.data = .fields vs) : Inv B S outer L m h' := by
  have hLx : L ∉ xs := fun q => by
    obtain ⟨o, es, ep, ho, hd, _⟩ := I.F.ns
    obtain ⟨vs, hv⟩ := (hx L q).2 o ho
    rw [hd] at hv; cases hv
  refine ⟨⟨x.ns hLx I.F.ns, fun b o hb => x.keep b o (I.F.keep b o hb) (fun q => ?_) (fun q => ?_), I.F.above⟩, I.K.fresh (xs := L :: xs) ⟨fun b o eb n m' => x.keep b o eb (fun q => n (.tail _ q)) (fun q => ?_), fun b o eb n m' => x.slot b o eb (fun q => n (.tail _ q)) (.tail _ m')⟩ (fun a ha => ?_)⟩
  · rw [U.bn (hx b q).1] at hb; cases hb
  · rcases List.mem_cons.mp q with rfl | q
    · rw [U.bl] at hb; cases hb
    · rw [U.bo b q] at hb; cases hb
  · rcases List.mem_cons.mp q with rfl | q
    · exact n (.head _)
    · exact m' q
  · rcases List.mem_cons.mp ha with rfl | ha
    · exact U.sl
    · exact (hx a ha).1
theorem Inv.stays {h h' : Heap} (U : Und B S outer L) (I : Inv B S outer L m h) (k : h.StaysIn h') : Inv B S outer L m h' :=
  I.step U (xs := []) (Tch.of_stays k) fun a ha => nomatch ha
theorem Inv.up1 {h h' : Heap} {a : Addr} (U : Und B S outer L) (I : Inv B S outer L m h) (u : Up1 a h h') (ha : S.get? a = none) (hv : ∀ o, h.get? a = some o → ∃ vs, o.data = .fields vs) : Inv B S outer L m h' :=
  I.step U (xs := [a]) (Tch.of_up1 u (List.mem_singleton.mpr rfl)) fun b hb => by rw [List.mem_singleton.mp hb]; exact ⟨ha, hv⟩
theorem Inv.store {h h' : Heap} {m' : Str → Option Value} (U : Und B S outer L) (I : Inv B S outer L m h) (hn : h'.Ns L m') (hs : Heap.SameBut L h h') : Inv B S outer L m' h' :=
  ⟨I.F.set hn hs, I.K.fresh (xs := [L]) ⟨fun b o e n _ => (hs.2 b fun q => n (by rw [q]; exact .head _)).trans e, fun b o e n _ => ⟨o.slots, (hs.2 b fun q => n (by rw [q]; exact .head _)).trans e⟩⟩ (fun a ha => by rw [List.mem_singleton.mp ha]; exact U.sl)⟩

theorem ue_notTuple : isSubtype (.type ((Manifest.find? "UnicodeEncodeError").elim "type" fun x => x.metatype)) (.type "tuple") = pure false := by
  rw [show ((Manifest.find? "UnicodeEncodeError").elim "type" fun x => x.metatype) = "type" from by kernel_rfl, isSubtype_type]; kernel_rfl

theorem ld_uee {A : Around} {s : Shared} {pos : Pos} {Q : Value → Shared → Prop} (F : Fr B L s.heap m) (N : Names B) (hq : Q (.type "UnicodeEncodeError") s) :
    wpAny (model prog w) A (eval (.Name "UnicodeEncodeError" pos) (envE L f cd)) Q E s := by
  obtain ⟨mg, mb, hg, hmiss, hb, hv⟩ := N.ex
  exact ld_builtin_at F hg hmiss hb hv hq

theorem evalArgs_star {A : Around} {s : Shared} {env : Env} {fv : Value} {e : PySem.Expr} {rest : List PySem.Expr} {pos : Pos} {Q : Args → Shared → Prop}
    (hq : wpAny (model prog w) A (spliced (backTo pos (starEach (e :: rest) env))) (fun vs s' => Q ⟨vs, []⟩ s') E s)
    (he : starEach (e :: rest) env = (false, eval e env) :: starEach rest env := by rfl) :
    wpAny (model prog w) A (evalArgs fv true (backTo pos (starEach (e :: rest) env)) []) Q E s := by
  rw [he] at hq ⊢
  exact Calls.evalArgs_plain hq

theorem enc_flight {e1 e2 t7 : Addr} {en re : Str} {i j : Int} {q1 q2 q5 p3 p4 : Tok} {n0 : Str} {pos : Pos}
    (hfr : A.frames = some outer) (U : Und B S outer L) (I8 : Inv B S outer L m h) (hlo : (envE L f cd).kindOf n0 = some .local) (se2 : S.get? e2 = none)
    (ex8 : h.get? e2 = some (ueObj t7 .none (.ref e1) .none (.bool true) en x re i j q1 q2 q5))
    (tu8 : h.get? t7 = some { cls := .type "tuple", data := .seq (ueArgs en x re i j q1 q2 p3 p4 q5).toArray }) (tF : t7 ∉ (envE L f cd :: outer).filterMap (·.frame))
    (hE : ∀ h' T m' tk, Inv B S outer L m' h' → UeAt h' e2 (.ref t7) (.ref T) (.ref e1) .none (.bool true) .none en x re i j q1 q2 q5 → T ≠ e2 → S.get? T = none → TB h' T (rawInt L) →
      h'.get? t7 = some { cls := .type "tuple", data := .seq (ueArgs en x re i j q1 q2 p3 p4 q5).toArray } → E (.ref e2) ⟨h', g, d, tk, os⟩) :
    AsSuiteRaised (model prog w) ((A.deeper (envE L f cd)).mark (some (.ref e1))) (envE L f cd) n0 pos (notedBy (model prog w) ((A.deeper (envE L f cd)).mark (some (.ref e1))) (envE L f cd) (cameBackBy (model prog w) (A.deeper (envE L f cd)) (envE L f cd) E))
      (.ref e2) ⟨h, g, d, tk, os⟩ := by
  have hkm : (envE L f cd).scope.kind ≠ .module := by show encScope.kind ≠ .module; decide
  have hte : t7 ≠ e2 := fun q => by rw [q, ex8] at tu8; have := congrArg Obj.data (Option.some.inj tu8); cases this
  have hfr'' : ((A.deeper (envE L f cd)).mark (some (.ref e1))).frames = some (envE L f cd :: outer) := Around.frames_deeper hfr
  refine note_first hfr'' (I8.ff U hkm rfl) rfl ex8 rfl fun h9 Tb2 T9 hl9 hTn9 hTe9 ex9 tb9 => ?_
  have hfld8 : ∀ o, h.get? e2 = some o → ∃ vs, o.data = .fields vs := fun o ho => by rw [ex8] at ho; cases ho; exact ⟨_, rfl⟩
  have I9 := I8.step U T9 (by intro a ha; rw [List.mem_singleton.mp ha]; exact ⟨se2, hfld8⟩)
  replace ex9 : UeAt h9 e2 (.ref t7) (.ref Tb2) (.ref e1) .none (.bool true) .none en x re i j q1 q2 q5 := ex9
  have tu9 := T9.keep t7 _ tu8 (by simpa using hte) tF
  refine wpAny_nameGoes (env := envE L f cd) hlo I9.F.ns (by rfl) fun h10 m10 hn10 hs10 => ?_
  have I10 := I9.store U hn10 hs10
  have notL : ∀ {h : Heap} {m : Str → Option Value} {a : Addr} {o : Obj}, h.Ns L m → h.get? a = some o → (∀ es n, o.data ≠ .dict es n) → a ≠ L := fun hns ho hd' q => by
    obtain ⟨o', es, ep, ho', hd2, _⟩ := hns
    rw [q, ho'] at ho; cases ho; exact hd' _ _ hd2
  have ex10 := (hs10.2 e2 (notL I9.F.ns ex9 (fun _ _ q => by cases q))).trans ex9
  have tu10 := (hs10.2 t7 (notL I9.F.ns tu9 (fun _ _ q => by cases q))).trans tu9
  have tb10 : TB h10 Tb2 (rawInt L) := by
    obtain ⟨oT, ts, a1, a2, a3⟩ := tb9
    exact ⟨oT, ts, (hs10.2 Tb2 (notL I9.F.ns a1 (fun _ _ q => by rw [a2] at q; cases q))).trans a1, a2, a3⟩
  have sT2 := I8.fresh hTn9
  dsimp only
  unfold PySem.passOn
  refine wpAny_bind (wpAny_field ex10 rfl (x := .ref Tb2) rfl ?_)
  rw [if_neg (show ¬ ((Value.ref Tb2 == Value.none) = true) by simp)]
  refine wpAny_bind (set_flight ex10 (T := Tb2) rfl tb10 fun h11 u11 tb11 => wpAny_throw ?_)
  have tT : t7 ≠ Tb2 := fun q => by
    obtain ⟨oT, ts, a1, a2, _⟩ := tb10
    rw [← q, tu10] at a1; cases a1; cases a2
  have I11 := I10.up1 U u11 sT2 tb10.fields
  have ex11 := (u11.same e2 (Ne.symm hTe9)).trans ex10
  have tu11 := (u11.same t7 tT).trans tu10
  refine note_again (T := Tb2) rfl ex11 rfl tb11 ?_
  refine wpAny_bind (wpAny_field ex11 rfl (x := .ref Tb2) rfl ?_)
  rw [if_neg (show ¬ ((Value.ref Tb2 == Value.none) = true) by simp)]
  refine set_flight ex11 (T := Tb2) rfl tb11 fun h12 u12 tb12 => ?_
  exact hE h12 Tb2 _ _ (I11.up1 U u12 sT2 tb11.fields) ((u12.same e2 (Ne.symm hTe9)).trans ex11) hTe9 sT2 tb12 ((u12.same t7 tT).trans tu11)

theorem enc_body (hfr : A.frames = some outer) (hh : A.handled = none) (U : Und B S outer L) (I : Inv B S outer L m h) (N : Names B)
    (hd : m "data" = some (.str x tx)) (hn : m "name" = some (.str n tn)) (hx : Fine x) (hnl : n.length ≤ 100000)
    (hok : lo x.cps.toList = x.cps.toList.length → ∀ tk tk', Q (.ret (.bytes (x.cps.toList.map (·.toUInt8)).toArray tk')) ⟨h, g, d, tk, os⟩)
    (hbad : lo x.cps.toList < x.cps.toList.length → ∀ h' e t T cx t1 t2 t3 t4 t5 tk, (∃ m', Inv B S outer L m' h') → S.get? e = none → S.get? t = none →
      UeAt h' e (.ref t) (.ref T) cx .none (.bool true) .none (Str.ofString "latin-1") x (encWords n x) (lo x.cps.toList) (hi x.cps.toList) t1 t2 t5 → T ≠ e → S.get? T = none → TB h' T (rawInt L) →
      h'.get? t = some { cls := .type "tuple", data := .seq (ueArgs (Str.ofString "latin-1") x (encWords n x) (lo x.cps.toList) (hi x.cps.toList) t1 t2 t3 t4 t5).toArray } → E (.ref e) ⟨h', g, d, tk, os⟩) :
    wpAny (model prog w) (A.deeper (envE L f cd)) (execs encBody (envE L f cd)) Q E ⟨h, g, d, tk, os⟩ := by
  have hsl : sizeLine = 16777216 := rfl
  refine wpAny_execs_cons (wpAny_Try_except ?_)
  refine wpAny_execs_cons (wpAny_Return_some (MethodCall_ (ld I.F hd (gm_encode ?_))))
  refine callWith_method1 ?_
  refine spliced_more (Calls.Constant_str (spliced_none ?_))
  refine call_encode hh (by have := hx.1; omega) (fun hlo tk' => ?_) (fun hlo h1 e1 t0 q1 q3 q4 q5 tk1 M1 => ?_)
  · exact hok hlo _ _
  · have hfr' : (A.deeper (envE L f cd)).frames = some (envE L f cd :: outer) := Around.frames_deeper hfr
    have hkm : (envE L f cd).scope.kind ≠ .module := by show encScope.kind ≠ .module; decide
    have I1 := I.stays U M1.keeps
    have se1 := I.fresh M1.new
    have st0 := I.fresh M1.newT
    refine note_first hfr' (I1.ff U hkm rfl) rfl M1.exc rfl fun h2 Tb1 T2 hl2 hTn2 hTe2 ex2 tb2 => ?_
    have I2 := I1.step U T2 (by intro a ha; rw [List.mem_singleton.mp ha]; exact ⟨se1, fun o ho => by rw [M1.exc] at ho; cases ho; exact ⟨_, rfl⟩⟩)
    have sT1 := I1.fresh hTn2
    refine set_flight ex2 (T := Tb1) rfl tb2 fun h3 u3 tb3 => ?_
    have I3 := I2.up1 U u3 sT1 tb2.fields
    have ex3 := (u3.same e1 (Ne.symm hTe2)).trans ex2
    replace ex3 : UeAt h3 e1 (.ref t0) (.ref Tb1) .none .none (.bool false) .none (Str.ofString "latin-1") x (Str.ofString "ordinal not in range(256)") (lo x.cps.toList) (hi x.cps.toList) q1 tx q5 := ex3
    refine wpAny_handleBy_builtin_as (X := "UnicodeEncodeError") (T := "UnicodeEncodeError") (b := true) ue_raise.isExc ue_notTuple ue_new.sub (ld_uee I3.F N ⟨rfl, ⟨_, ex3, rfl⟩, ?_⟩)
    rw [if_pos rfl]
    refine set_flight ex3 (T := Tb1) rfl tb3 fun h4 u4 tb4 => ?_
    have I4 := I3.up1 U u4 sT1 tb3.fields
    have ex4 := (u4.same e1 (Ne.symm hTe2)).trans ex3
    refine wpAny_storeName_local (s := ⟨h4, g, d, _, os⟩) (env := envE L f cd) (by rfl) I4.F.ns (fun h5 hn5 hs5 => ?_) (by rfl)
    have I5 := I4.store U hn5 hs5
    have e1L : e1 ≠ L := fun q => by
      obtain ⟨o, es, ep, ho, hd', _⟩ := I4.F.ns
      rw [← q, ex4] at ho; cases ho; cases hd'
    have ex5 : UeAt h5 e1 (.ref t0) (.ref Tb1) .none .none (.bool false) .none (Str.ofString "latin-1") x (Str.ofString "ordinal not in range(256)") (lo x.cps.toList) (hi x.cps.toList) q1 tx q5 := (hs5.2 e1 e1L).trans ex4
    refine wpAny_execs_cons ?_
    rw [arm_exec_Raise]
    refine wpAny_bind (wpAny_standAt ?_)
    refine raise_from_none (e1 := e1) rfl (fun s Q hq => wpAny_bind (wpAny_Constant_none (wpAny_bind (wpAny_standAt (wpAny_pure hq))))) (wpAny_bind ?_)
    refine wpAny_Call_ofName (ld_uee I5.F N (callWith_excType (by rfl) (evalArgs_star ?_)))
    refine spliced_more (Attribute_name (ld I5.F (by rfl) (at_encoding ex5 ?_)))
    refine spliced_more (Attribute_name (ld I5.F (by rfl) (at_object ex5 ?_)))
    refine spliced_more (Attribute_name (ld I5.F (by rfl) (at_start ex5 ?_)))
    refine spliced_more (Attribute_name (ld I5.F (by rfl) (at_end ex5 ?_)))
    refine spliced_more (wpAny_JoinedStr ?_)
    have hn5' : (fun y => if y = Str.ofString "err" then some (Value.ref e1) else m y) (Str.ofString "name") = some (.str n tn) := (if_neg (by decide)).trans hn
    have hd5' : (fun y => if y = Str.ofString "err" then some (Value.ref e1) else m y) (Str.ofString "data") = some (.str x tx) := (if_neg (by decide)).trans hd
    have hlx : x.cps.toList.length = x.length := Array.length_toList
    have hhi := hi_le x.cps.toList
    have hr := StrLaws.reprText_len (mid x (lo x.cps.toList) (hi x.cps.toList)) (hx.mid _ _).2
    have hr2 := mid_len x (lo x.cps.toList) (hi x.cps.toList)
    have hx1 := hx.1
    have hc20 := cut20_len (reprText (mid x (lo x.cps.toList) (hi x.cps.toList)))
    have z0 : Str.empty.length = 0 := rfl
    have z1 : (Str.ofString " (").length = 2 := by decide +kernel
    have z2 : (Str.ofString ") is not valid Latin-1. Use ").length = 28 := by decide +kernel
    have z3 : (Str.ofString ".encode('utf-8') if you want to send it encoded in UTF-8.").length = 57 := by decide +kernel
    refine FmtVal_s (MethodCall_ (ld I5.F hn5' (GM.title (callWith_method0 (SCL.title (by omega) fun hti => ?_)))))
    refine ⟨_, _, rfl, by omega, fun k tk => ⟨_, _, rfl, by simp only [Str.length_append]; omega, Calls.Constant_str ⟨_, _, rfl, by simp only [Str.length_append]; omega, FmtVal_r20 ?_⟩⟩⟩
    refine Subscript_Slice (ld I5.F hd5' (wpAny_Slice (evalPart_some_step (Attribute_name (ld I5.F (by rfl) (at_start ex5 (evalPart_some_step (Attribute_name (ld I5.F (by rfl) (at_end ex5 (evalPart_none_step ?_))))))))))) 
    refine SBH.sliceItem_ss (P := fun h' => h5.StaysIn h') (fun h' ob k b o e => Heap.get?_push_of_some _ (k b o e)) (fun _ _ e => e) (fun h6 t6 k6 K6 => ?_) (by omega)
    rw [slice_mid x (lo_le_hi _) (by omega)]
    have I6 := I5.stays U K6
    have ex6 := K6 _ _ ex5
    refine ⟨_, _, rfl, by omega, fun k7 tk7 => ⟨_, _, rfl, by simp only [Str.length_append]; omega, Calls.Constant_str ⟨_, _, rfl, by simp only [Str.length_append]; omega, FmtVal_s (ld I6.F hn5' ⟨_, _, rfl, by omega, fun k8 tk8 => ⟨_, _, rfl, by simp only [Str.length_append]; omega,
      Calls.Constant_str ⟨_, _, rfl, by simp only [Str.length_append]; omega, ⟨by simp only [Str.length_append]; omega, spliced_none ?_⟩⟩⟩⟩)⟩⟩⟩
    refine ue_call (hp := h6) ⟨by omega, by omega⟩ ⟨by omega, by omega⟩ fun h7 e2 t7 M7 => ?_
    have hne : e2 ≠ e1 := fun q => by have := M7.new; rw [q, ex6] at this; cases this
    have ex7 := M7.keeps _ _ ex6
    have I7 := I6.stays U M7.keeps
    have se2 := I6.fresh M7.new
    have st7 := I6.fresh M7.newT
    refine wpAny_bind (wpAny_standAt (wpAny_pure ⟨e2, t7, _, _, _, _, _, _, _, _, _, _, _, _, rfl, hne, M7.exc, ex7, rfl, fun h8 u8 ex8 => ?_⟩))
    have I8 := I7.up1 U u8 se2 (fun o ho => by rw [M7.exc] at ho; cases ho; exact ⟨_, rfl⟩)
    have hte : t7 ≠ e2 := fun q => by have := M7.tup; rw [q, M7.exc] at this; have := congrArg Obj.data (Option.some.inj this); cases this
    have tu8 := (u8.same t7 hte).trans M7.tup
    refine enc_flight (m := fun y => if y = Str.ofString "err" then some (Value.ref e1) else m y) hfr U I8 (by rfl) se2 ex8 tu8 (fun hm => ?_) fun h' T m' tk' I' ue' hT sT tb' tu' => ?_
    · obtain ⟨_, o, ho, _⟩ := (I6.ff U hkm rfl).mem hm
      have := M7.newT; rw [ho] at this; cases this
    · exact hbad hlo h' e2 t7 T (.ref e1) _ _ _ _ _ tk' ⟨m', I'⟩ se2 st7 ue' hT sT tb' tu'


abbrev encFd (dV kV doc pm cdv ct : Value) (an : Option Addr) : FuncData := fnOf (Str.ofString "_encode") (Str.ofString "_encode") encParams encBody encScope dV kV doc pm an cdv ct
def EncFn (B : Heap) (f : Addr) : Prop := ∃ (o oT : Obj) (T : Addr) (kV doc pm cdv ct : Value) (an : Option Addr) (kt : Tok), B.get? f = some o ∧
  o.data = .func (encFd (.ref T) kV doc pm cdv ct an) ∧ B.CodeRec cdv (Str.ofString "_encode") ∧ B.get? T = some oT ∧ oT.data = .seq #[.str (Str.ofString "data") kt] 0

theorem enc_call_by {s : Shared} {args : Args} {R : Result → Shared → Prop} {o : Obj} {dV kV doc pm cdv ct : Value} {an : Option Addr} (hfr : A.frames = some outer) (hh : A.handled = none) (hroom : A.depth < recursionLimit)
    (bs : B.StaysIn s.heap) (hsz : B.objs.size ≤ s.heap.objs.size) (bo : ∀ a ∈ outer.filterMap (·.frame), B.get? a = none) (so : s.heap.FunFrames noHeap outer) (N : Names B) (hlim : B.NoLimit)
    (ho : B.get? f = some o) (hd : o.data = .func (encFd dV kV doc pm cdv ct an)) (hcd : B.CodeRec cdv (Str.ofString "_encode"))
    (hbind : BindsTo s (encFd dV kV doc pm cdv ct an) args [(Str.ofString "data", .str x tx), (Str.ofString "name", .str n tn)]) (hx : Fine x) (hnl : n.length ≤ 100000)
    (hok : lo x.cps.toList = x.cps.toList.length → ∀ h' tk tk', Tch [] (outer.filterMap (·.frame)) s.heap h' → R (.ok (.ret (.bytes (x.cps.toList.map (·.toUInt8)).toArray tk'))) ⟨h', s.gens, s.drawn, tk, s.os⟩)
    (hbad : lo x.cps.toList < x.cps.toList.length → ∀ h' e t T cx t1 t2 t3 t4 t5 tk, Tch [] (outer.filterMap (·.frame)) s.heap h' → s.heap.get? e = none → s.heap.get? t = none → s.heap.get? T = none →
      UeAt h' e (.ref t) (.ref T) cx .none (.bool true) .none (Str.ofString "latin-1") x (encWords n x) (lo x.cps.toList) (hi x.cps.toList) t1 t2 t5 → T ≠ e → TB h' T .none →
      h'.get? t = some { cls := .type "tuple", data := .seq (ueArgs (Str.ofString "latin-1") x (encWords n x) (lo x.cps.toList) (hi x.cps.toList) t1 t2 t3 t4 t5).toArray } → R (.error (.ref e)) ⟨h', s.gens, s.drawn, tk, s.os⟩) :
    codeAny (model prog w) A (.call (.ref f) args) R s := by
  refine codeAny_call_def (fd := encFd dV kV doc pm cdv ct an) (body := encBody) hroom (bs _ _ ho) hd (hlim.keeps bs) (hcd.keeps bs) rfl hbind (show ∀ x ∈ encScope.names, x.2 ≠ .cell by decide) (locs (scope := encScope) (binds := [(Str.ofString "data", .str x tx), (Str.ofString "name", .str n tn)]) rfl) (fun h0 hns k0 => ?_) rfl rfl rfl
  have U : Und B s.heap outer s.heap.objs.size := ⟨bs, bo, Heap.get?_none_of_le (Nat.le_refl _), so⟩
  have I : Inv B s.heap outer s.heap.objs.size _ h0 := ⟨⟨hns, fun b o e => k0 b o (bs b o e), hsz⟩, Tch.of_stays k0⟩
  refine enc_body (L := s.heap.objs.size) (f := f) (cd := cdv) (m := _) hfr hh U I N rfl rfl hx hnl (fun hlo tk tk' => ?_) (fun hlo h' e t T cx t1 t2 t3 t4 t5 tk IE se st ue hT sT tb tu => ?_)
  · exact hok hlo _ _ _ I.K
  · obtain ⟨m', I'⟩ := IE
    unfold PySem.leaving
    refine wpAny_bind (note_again (T := T) rfl ue rfl tb ?_)
    refine set_flight ue (T := T) rfl tb fun h2 u2 tb2 => ?_
    have I2 := I'.up1 U u2 sT tb.fields
    refine hbad hlo h2 e t T cx t1 t2 t3 t4 t5 tk I2.K se st sT ((u2.same e (Ne.symm hT)).trans ue) hT tb2 ((u2.same t fun q => ?_).trans tu)
    obtain ⟨oT, ts, a1, a2, _⟩ := tb
    rw [← q, tu] at a1; cases a1; cases a2

theorem enc_call2 {s : Shared} {R : Result → Shared → Prop} (hf : EncFn B f) (hfr : A.frames = some outer) (hh : A.handled = none) (hroom : A.depth < recursionLimit)
    (bs : B.StaysIn s.heap) (hsz : B.objs.size ≤ s.heap.objs.size) (bo : ∀ a ∈ outer.filterMap (·.frame), B.get? a = none) (so : s.heap.FunFrames noHeap outer) (N : Names B) (hlim : B.NoLimit)
    (hx : Fine x) (hnl : n.length ≤ 100000)
    (hok : lo x.cps.toList = x.cps.toList.length → ∀ h' tk tk', Tch [] (outer.filterMap (·.frame)) s.heap h' → R (.ok (.ret (.bytes (x.cps.toList.map (·.toUInt8)).toArray tk'))) ⟨h', s.gens, s.drawn, tk, s.os⟩)
    (hbad : lo x.cps.toList < x.cps.toList.length → ∀ h' e t T cx t1 t2 t3 t4 t5 tk, Tch [] (outer.filterMap (·.frame)) s.heap h' → s.heap.get? e = none → s.heap.get? t = none → s.heap.get? T = none →
      UeAt h' e (.ref t) (.ref T) cx .none (.bool true) .none (Str.ofString "latin-1") x (encWords n x) (lo x.cps.toList) (hi x.cps.toList) t1 t2 t5 → T ≠ e → TB h' T .none →
      h'.get? t = some { cls := .type "tuple", data := .seq (ueArgs (Str.ofString "latin-1") x (encWords n x) (lo x.cps.toList) (hi x.cps.toList) t1 t2 t3 t4 t5).toArray } → R (.error (.ref e)) ⟨h', s.gens, s.drawn, tk, s.os⟩) :
    codeAny (model prog w) A (.call (.ref f) ⟨[.str x tx, .str n tn], []⟩) R s := by
  obtain ⟨o, oT, T, kV, doc, pm, cdv, ct, an, kt, ho, hd, hcd, hT, hTd⟩ := hf
  exact enc_call_by (tx := tx) (tn := tn) hfr hh hroom bs hsz bo so N hlim ho hd hcd (.of_defaults (T := T) (o := oT) (n := 0) rfl (bs _ _ hT) hTd rfl rfl) hx hnl hok hbad

theorem enc_call1 {s : Shared} {R : Result → Shared → Prop} (hf : EncFn B f) (hfr : A.frames = some outer) (hh : A.handled = none) (hroom : A.depth < recursionLimit)
    (bs : B.StaysIn s.heap) (hsz : B.objs.size ≤ s.heap.objs.size) (bo : ∀ a ∈ outer.filterMap (·.frame), B.get? a = none) (so : s.heap.FunFrames noHeap outer) (N : Names B) (hlim : B.NoLimit)
    (hx : Fine x)
    (hok : lo x.cps.toList = x.cps.toList.length → ∀ h' tk tk', Tch [] (outer.filterMap (·.frame)) s.heap h' → R (.ok (.ret (.bytes (x.cps.toList.map (·.toUInt8)).toArray tk'))) ⟨h', s.gens, s.drawn, tk, s.os⟩)
    (hbad : lo x.cps.toList < x.cps.toList.length → ∀ h' e t T cx t1 t2 t3 t4 t5 tk, Tch [] (outer.filterMap (·.frame)) s.heap h' → s.heap.get? e = none → s.heap.get? t = none → s.heap.get? T = none →
      UeAt h' e (.ref t) (.ref T) cx .none (.bool true) .none (Str.ofString "latin-1") x (encWords (Str.ofString "data") x) (lo x.cps.toList) (hi x.cps.toList) t1 t2 t5 → T ≠ e → TB h' T .none →
      h'.get? t = some { cls := .type "tuple", data := .seq (ueArgs (Str.ofString "latin-1") x (encWords (Str.ofString "data") x) (lo x.cps.toList) (hi x.cps.toList) t1 t2 t3 t4 t5).toArray } → R (.error (.ref e)) ⟨h', s.gens, s.drawn, tk, s.os⟩) :
    codeAny (model prog w) A (.call (.ref f) ⟨[.str x tx], []⟩) R s := by
  obtain ⟨o, oT, T, kV, doc, pm, cdv, ct, an, kt, ho, hd, hcd, hT, hTd⟩ := hf
  exact enc_call_by (n := Str.ofString "data") (tn := kt) hfr hh hroom bs hsz bo so N hlim ho hd hcd (.of_defaults (T := T) (o := oT) (n := 0) rfl (bs _ _ hT) hTd rfl rfl) hx (by decide +kernel) hok hbad
end
end Mine
end
section
open PySem PySem.W PyProof.Rows
open PySem.Builtin PySem.Builtin.Str
namespace Mine

def GlobalIs (B : Heap) (x : Str) (v : Value) : Prop := ∃ mg mb, B.Ns mainGlobals mg ∧ B.Ns builtinsNs mb ∧ (mg x = some v ∨ (mg x = none ∧ mb x = some v))
theorem GlobalIs.keeps {B h : Heap} {x : Str} {v : Value} (g : GlobalIs B x v) (k : B.StaysIn h) : GlobalIs h x v := by
  obtain ⟨mg, mb, a, b, c⟩ := g
  exact ⟨mg, mb, a.keeps k, b.keeps k, c⟩
def FnIs (B : Heap) (f : Addr) (name : Str) (d : Stmt) : Prop := ∃ (o : Obj) (doc pm cdv ct : Value) (an : Option Addr), B.get? f = some o ∧
  o.data = .func (fnOf name name (paramsOf d) (bodyOf d) (scopeOf d) .none .none doc pm an cdv ct) ∧ B.CodeRec cdv name
section
variable {prog : Program} {w : World} {A : Around} {E : Value → Shared → Prop} {s : Shared} {B : Heap} {f : Addr} {outer : List Env}
theorem ld_global {env : Env} {x : Str} {v : Value} {pos : Pos} {Q : Value → Shared → Prop} (g : GlobalIs B x v) (k : B.StaysIn s.heap) (hq : Q v s)
    (hk : env.scope.kind = .function := by rfl) (hx : env.kindOf x = some .globalImplicit := by rfl) (hg : env.globals = mainGlobals := by rfl) (hb : env.builtins = builtinsNs := by rfl) (hd : (x == ("__debug__" : Str)) = false := by decide) :
    wpAny (model prog w) A (eval (.Name x pos) env) Q E s := by
  obtain ⟨mg, mb, a, b, c⟩ := g
  refine Calls.Name_function_global hk hx ?_ hd
  rcases c with c | ⟨c, c'⟩
  · exact Calls.loadGlobal_global (hg ▸ a.keeps k) c hq
  · exact Calls.loadGlobal_builtin (hg ▸ a.keeps k) c (hb ▸ b.keeps k) c' hq
theorem fn_call {name : Str} {d : Stmt} {args : Args} {binds : List (Str × Value)} {R : Result → Shared → Prop} (hf : FnIs B f name d) (hroom : A.depth < recursionLimit) (bs : B.StaysIn s.heap) (hlim : B.NoLimit)
    (hbind : ∀ doc pm cdv ct an, bindArgs (fnOf name name (paramsOf d) (bodyOf d) (scopeOf d) .none .none doc pm an cdv ct) args = pure binds)
    (hcell : ∀ x ∈ (scopeOf d).names, x.2 ≠ .cell) (hloc : ∀ x ∈ binds, (scopeOf d).names.lookup x.1 = some .local)
    (hco : (scopeOf d).isCoroutine = false) (hgen : (scopeOf d).isGenerator = false) (hk : (scopeOf d).kind = .function)
    (h : ∀ h1 cd, Fr s.heap s.heap.objs.size h1 (fun x => binds.reverse.lookup x) →
      wpAny (model prog w) (A.deeper (envOf name (scopeOf d) s.heap.objs.size f cd)) (execs (bodyOf d) (envOf name (scopeOf d) s.heap.objs.size f cd))
        (fun fl s' => R (.ok (.ret (match fl with | .ret v => v | _ => .none))) s') (fun _ _ => False) { s with heap := h1, toks := s.toks + binds.length }) :
    codeAny (model prog w) A (.call (.ref f) args) R s := by
  obtain ⟨o, doc, pm, cdv, ct, an, ho, hd, hcd⟩ := hf
  refine codeAny_call_def (body := bodyOf d) hroom (bs _ _ ho) hd (hlim.keeps bs) (hcd.keeps bs) rfl (.of_eq (hbind _ _ _ _ _)) hcell hloc (fun h0 hns k0 => ?_) hco hgen hk
  exact wpAny_mono (h h0 cdv ⟨hns, k0, Nat.le_refl _⟩) (fun _ _ x => x) fun _ _ x => x.elim
theorem wp_newList {vs : List Value} {Q : Value → Shared → Prop} (hsz : vs.length ≤ sizeLine) (hq : Q (.ref s.heap.objs.size) { s with heap := s.heap.push { cls := .type "list", data := .seq vs.toArray } }) : wpAny (model prog w) A (newList vs) Q E s :=
  wpAny_newObj_type hq (by show vs.toArray.size ≤ sizeLine; rw [List.size_toArray]; exact hsz)
theorem sub_list {value slice : PySem.Expr} {l : Addr} {items : Array Value} {k : Int} {u : Tok} {v : Value} {Q : Value → Shared → Prop}
    (hl : s.heap.IsList l items) (h0 : 0 ≤ k) (hhi : k < 2 ^ 63) (hx : items[k.toNat]? = some v) (h : Q v s)
    (hs : subscripted slice false (.ref l) (.int k u) = operate [.ref l, .int k u] (getItem (.ref l) (.int k u)) := by with_unfolding_all rfl) :
    wpAny (model prog w) A (subscriptTail value slice (.ref l) (.int k u)) Q E s :=
  tail_any hl.typeIs slot_list_getitem.lookup (wpAny_getItem_list hl h0 hhi hx h) hs
theorem sub_list_int {value slice : PySem.Expr} {l : Addr} {items : Array Value} {k M : Int} {u : Tok} {Q : Value → Shared → Prop}
    (hl : s.heap.IsList l items) (h0 : 0 ≤ k) (hhi : k < 2 ^ 63) (hx : ∃ u, items[k.toNat]? = some (.int M u)) (h : ∀ u, Q (.int M u) s)
    (hs : subscripted slice false (.ref l) (.int k u) = operate [.ref l, .int k u] (getItem (.ref l) (.int k u)) := by with_unfolding_all rfl) :
    wpAny (model prog w) A (subscriptTail value slice (.ref l) (.int k u)) Q E s := by
  obtain ⟨u, hu⟩ := hx
  exact sub_list hl h0 hhi hu (h u) hs
end
abbrev latinS : Str := Str.ofString "latin-1"
def octs (x : Str) : Array UInt8 := (x.cps.toList.map (·.toUInt8)).toArray
abbrev loS (x : Str) : Nat := lo x.cps.toList
abbrev hiS (x : Str) : Nat := hi x.cps.toList
def Kp (xs : List Addr) (h h' : Heap) : Prop := ∀ b o, h.get? b = some o → b ∉ xs → h'.get? b = some o
theorem Kp.refl (xs : List Addr) (h : Heap) : Kp xs h h := fun _ _ e _ => e
theorem Kp.trans {xs : List Addr} {a b c : Heap} (x : Kp xs a b) (y : Kp xs b c) : Kp xs a c := fun p o e n => y p o (x p o e n) n
theorem Kp.mono {xs ys : List Addr} {a b : Heap} (x : Kp xs a b) (s : ∀ p ∈ xs, p ∈ ys) : Kp ys a b := fun p o e n => x p o e fun q => n (s p q)
theorem Kp.of_stays {xs : List Addr} {a b : Heap} (k : a.StaysIn b) : Kp xs a b := fun p o e _ => k p o e
theorem Kp.of_same {L : Addr} {xs : List Addr} {a b : Heap} (k : Heap.SameBut L a b) (hL : L ∈ xs) : Kp xs a b := fun p o e n => (k.2 p fun q => n (q ▸ hL)).trans e
theorem Kp.of_tch {L : Addr} {a b : Heap} (x : Tch [] [L] a b) : Kp [L] a b := fun p o e n => x.keep p o e (by simp) n
theorem Kp.fresh {xs ys : List Addr} {a b c : Heap} (x : Kp xs a b) (y : Kp ys b c) (hy : ∀ p ∈ ys, p ∈ xs ∨ a.get? p = none) : Kp xs a c := fun p o e n =>
  y p o (x p o e n) fun q => (hy p q).elim n fun z => by rw [z] at e; cases e
theorem Kp.drop {xs ys : List Addr} {a b : Heap} (x : Kp ys a b) (hy : ∀ p ∈ ys, p ∈ xs ∨ a.get? p = none) : Kp xs a b := (Kp.refl xs a).fresh x hy
theorem Kp.fr {B h h' : Heap} {L : Addr} {xs : List Addr} {m m' : Str → Option Value} (x : Kp xs h h') (hx : ∀ p ∈ xs, B.get? p = none) (F : Fr B L h m) (hn : h'.Ns L m') : Fr B L h' m' :=
  ⟨hn, fun b o e => x b o (F.keep b o e) (fun q => by rw [hx b q] at e; cases e), F.above⟩
theorem Kp.ns {h h' : Heap} {L : Addr} {xs : List Addr} {m : Str → Option Value} (x : Kp xs h h') (hx : L ∉ xs) (hn : h.Ns L m) : h'.Ns L m := by
  obtain ⟨o, es, ep, ho, hd, r⟩ := hn
  exact ⟨o, es, ep, x L o ho hx, hd, r⟩
section
variable {prog : Program} {w : World} {A : Around} {E : Value → Shared → Prop} {B h0 : Heap} {g : Array GenState} {d : Drawn} {tk0 : Nat} {os : OsState} {L : Addr} {env : Env} {m0 : Str → Option Value}
theorem for_law {I : Addr} {fp wr ws : List Addr} {n : Nat} {P : Nat → Value → Prop} {St : Nat → Heap → Prop} {x : Str} {px : Pos} {body : List Stmt} {R : Result → Shared → Prop}
    (W : Walks prog w A I fp wr n P St) (hL : L ∉ fp) (hwL : L ∉ wr) (hB : ∀ b ∈ wr, B.get? b = none) (hws : ∀ b ∈ ws, b ∉ fp) (hBL : B.get? L = none)
    (hloc : env.locals = L) (hx : env.kindOf x = some .local) (hp : (env.scope.kind == .class || (env.scope.kind == .module && env.locals != env.globals)) = false)
    (J : Nat → (Str → Option Value) → Heap → Prop) (jst : ∀ i m h h', J i m h → Kp (L :: wr) h h' → J i m h')
    (F0 : Fr B L h0 m0) (st0 : St 0 h0) (j0 : J 0 m0 h0)
    (turn : ∀ i m h tk v (E' : Value → Shared → Prop), i < n → J i m h → P i v → Fr B L h (fun y => if y = x then some v else m y) → Kp (L :: wr ++ ws) h0 h →
      wpAny (model prog w) A (execs body env) (fun f s3 => f = .next ∧ ∃ m3 h3 tk3, s3 = ⟨h3, g, d, tk3, os⟩ ∧ Fr B L h3 m3 ∧ Kp (L :: ws) h h3 ∧ J (i + 1) m3 h3) E' ⟨h, g, d, tk, os⟩)
    (fin : ∀ m h tk, J n m h → Fr B L h m → Kp (L :: wr ++ ws) h0 h → R (.ok .next) ⟨h, g, d, tk, os⟩) :
    codeAny (model prog w) A (.forLoop (.Name x px) (.ref I) body [] env) R ⟨h0, g, d, tk0, os⟩ := by
  refine codeAny_forLoop_any (fun k s' => ∃ h tk m i, s' = ⟨h, g, d, tk, os⟩ ∧ St i h ∧ Fr B L h m ∧ J i m h ∧ i ≤ n ∧ k = n - i ∧ Kp (L :: wr ++ ws) h0 h) ?_ n
    ⟨h0, tk0, m0, 0, rfl, st0, F0, j0, Nat.zero_le _, rfl, Kp.refl _ _⟩
  rintro k s' ⟨h, tk, m, i, rfl, st, F, j, hi, rfl, K⟩
  have hwr : ∀ p ∈ wr, p ∈ L :: wr := fun p q => .tail _ q
  rcases Nat.lt_or_ge i n with hlt | hge
  · refine W.item i _ _ _ hlt st fun v h1 tk1 hv st1 k1 => ?_
    have K1 : Kp wr h h1 := fun b o e nq => k1 b o nq e
    have F1 : Fr B L h1 m := K1.fr hB F (K1.ns hwL F.ns)
    have hpure : ∀ {E1 : Value → Shared → Prop} {Q1 : Unit → Shared → Prop} {s1 : Shared}, Q1 () s1 → wpAny (model prog w) A (letOwnedTupleGo (.Name x px) (.ref I) v) Q1 E1 s1 := fun hq => wpAny_of_eq (a := ()) rfl hq
    refine hpure (wpAny_assign_Name (wpAny_storeName_local (m := m) (by exact hx) (by rw [hloc]; exact F1.ns) (fun h2 hn2 hs2 => ?_) hp))
    rw [hloc] at hn2 hs2
    have K2 : Kp (L :: wr) h h2 := (K1.mono hwr).trans (Kp.of_same hs2 (.head _))
    have F2 : Fr B L h2 (fun y => if y = x then some v else m y) := F1.set hn2 hs2
    have st2 : St (i + 1) h2 := W.frame _ _ _ st1 fun b hb o e => (hs2.2 b fun q => hL (q ▸ hb)).trans e
    refine wpAny_mono (turn i m h2 (tk1 + 1) v _ hlt (jst _ _ _ _ j K2) hv F2 (K.trans (K2.mono fun p q => List.mem_append_left _ q))) (fun f s3 h3 => ?_) fun _ _ q => q
    obtain ⟨rfl, m3, h3, tk3, rfl, F3, K3, j3⟩ := h3
    refine ⟨n - (i + 1), by omega, h3, tk3, m3, i + 1, rfl, ?_, F3, j3, hlt, rfl, (K.trans (K2.mono fun p q => List.mem_append_left _ q)).trans (K3.mono fun p q => (List.mem_cons.mp q).elim (fun e => e ▸ .head _) fun q => .tail _ (List.mem_append_right _ q))⟩
    refine W.frame _ _ _ st2 fun b hb o e => K3 b o e fun q => ?_
    rcases List.mem_cons.mp q with rfl | q
    · exact hL hb
    · exact hws b q hb
  · obtain rfl : i = n := Nat.le_antisymm hi hge
    refine W.done _ _ _ st fun h1 tk1 k1 => wpAny_execs_nil ?_
    have K1 : Kp wr h h1 := fun b o e nq => k1 b o nq e
    exact fin m h1 tk1 (jst _ _ _ _ j (K1.mono hwr)) (K1.fr hB F (K1.ns hwL F.ns)) (K.trans (K1.mono fun p q => List.mem_append_left _ (.tail _ q)))
end
theorem eqAt_bytes {A : Around} {s : Shared} {b c : Array UInt8} {t u : Tok} (h : b = c) : PySem.SeqAt.EqAt A s (.bytes b t) (.bytes c u) true := fun prog w E Q hq => by
  unfold eqBool
  refine wpAny_holding ?_
  refine wpAny_ite_split (fun hab => ?_) (fun _ => ?_)
  · exact wpAny_bind (wpAny_rule (wpAny_pure hq))
  · exact wpAny_bind (richCompare_gives (typeIs_bytes s b t) (typeIs_bytes s c u) FB.slot_bytes_eq FB.entry_bytes_eq (FB.args_bytes_eq_2 _ _) (gives_bytes_eq b c t u) (fun e => nomatch e)
      (wpAny_truthy_bool (by rw [h]; simpa using hq)))
theorem tw_append {p : Nat → Bool} : ∀ a b : List Nat, ((a ++ b).takeWhile p).length = if (a.takeWhile p).length < a.length then (a.takeWhile p).length else a.length + (b.takeWhile p).length
  | [], b => by simp
  | x :: a, b => by
    rw [List.cons_append, List.takeWhile_cons, List.takeWhile_cons]
    by_cases h : p x = true
    · rw [if_pos h, if_pos h]
      simp only [List.length_cons]
      rw [tw_append a b]
      by_cases h2 : (a.takeWhile p).length < a.length
      · rw [if_pos h2, if_pos (by omega)]
      · rw [if_neg h2, if_neg (by omega)]; omega
    · rw [if_neg h, if_neg h]; simp
theorem lo_append (a b : List Nat) : lo (a ++ b) = if lo a < a.length then lo a else a.length + lo b := tw_append a b
theorem hi_append (a b : List Nat) : hi (a ++ b) = if lo a < a.length then (if hi a = a.length then a.length + (if lo b = 0 then hi b else 0) else hi a) else a.length + hi b := by
  unfold hi
  rw [lo_append]
  by_cases h : lo a < a.length
  · rw [if_pos h, if_pos h, List.drop_append_of_le_length (by omega), tw_append]
    have hl : (a.drop (lo a)).length = a.length - lo a := List.length_drop
    by_cases h2 : ((a.drop (lo a)).takeWhile (fun c => !decide (c < 256))).length < (a.drop (lo a)).length
    · rw [if_pos h2, if_neg (by omega)]
    · have h3 : ((a.drop (lo a)).takeWhile (fun c => !decide (c < 256))).length ≤ (a.drop (lo a)).length := takeWhile_len_le _
      rw [if_neg h2, if_pos (by omega), hl]
      have h5 : (b.takeWhile (fun c => !decide (c < 256))).length = if lo b = 0 then lo b + ((b.drop (lo b)).takeWhile (fun c => !decide (c < 256))).length else 0 := by
        by_cases h4 : lo b = 0
        · rw [if_pos h4, h4]; simp
        · rw [if_neg h4]
          cases b with
          | nil => rfl
          | cons c r =>
            have hc : c < 256 := by
              unfold lo at h4
              rw [List.takeWhile_cons] at h4
              by_cases hc : c < 256
              · exact hc
              · simp [hc] at h4
            simp [List.takeWhile_cons, hc]
      rw [h5]
      omega
  · rw [if_neg h, if_neg h]
    have : (a ++ b).drop (a.length + lo b) = b.drop (lo b) := by rw [List.drop_append]; simp
    rw [this]; omega
def runOf (l : List Nat) : List Nat := (l.drop (lo l)).take (hi l - lo l)
theorem runOf_eq (l : List Nat) : runOf l = (l.drop (lo l)).takeWhile (fun c => !decide (c < 256)) := by
  unfold runOf hi
  rw [Nat.add_sub_cancel_left]
  generalize l.drop (lo l) = r
  induction r with
  | nil => rfl
  | cons c r ih =>
    rw [List.takeWhile_cons]
    split
    · rw [List.length_cons, List.take_succ_cons, ih]
    · rfl
theorem takeWhile_all {p : Nat → Bool} : ∀ l : List Nat, ∀ c ∈ l.takeWhile p, p c = true
  | [], c, h => by simp at h
  | x :: l, c, h => by
    rw [List.takeWhile_cons] at h
    split at h
    · rcases List.mem_cons.mp h with rfl | h
      · assumption
      · exact takeWhile_all l c h
    · simp at h
theorem tw_self {p : Nat → Bool} : ∀ l : List Nat, (∀ c ∈ l, p c = true) → l.takeWhile p = l
  | [], _ => rfl
  | x :: l, h => by rw [List.takeWhile_cons, if_pos (h x (.head _)), tw_self l fun c hc => h c (.tail _ hc)]
theorem runOf_big (l : List Nat) : ∀ c ∈ runOf l, ¬ c < 256 := fun c h => by
  rw [runOf_eq] at h
  have := takeWhile_all _ c h
  simpa using this
theorem lo_big {l : List Nat} (h : ∀ c ∈ l, ¬ c < 256) : lo l = 0 := by
  cases l with
  | nil => rfl
  | cons c r =>
    unfold lo
    rw [List.takeWhile_cons, if_neg (by simpa using h c (.head _))]; rfl
theorem hi_big {l : List Nat} (h : ∀ c ∈ l, ¬ c < 256) : hi l = l.length := by
  unfold hi
  rw [lo_big h, List.drop_zero, tw_self l fun c hc => by simpa using h c hc]; omega
theorem runOf_run {l : List Nat} (h : ∀ c ∈ l, ¬ c < 256) : runOf l = l := by
  unfold runOf; rw [lo_big h, hi_big h]; simp
theorem runOf_pos {l : List Nat} (h : lo l < l.length) : 0 < (runOf l).length := by
  rw [runOf_eq]
  have h1 : l.drop (lo l) = l[lo l] :: l.drop (lo l + 1) := List.drop_eq_getElem_cons h
  have h2 := lo_stop l h
  rw [h1, List.takeWhile_cons, if_pos (by simpa using h2)]
  simp
theorem mid_run (x : Str) : (mid x (loS x) (hiS x)).cps.toList = runOf x.cps.toList := by
  show ((x.cps.toList.drop _).take _).toArray.toList = _
  rw [List.toList_toArray]; rfl
theorem encWords_run (n x : Str) : encWords n (mid x (loS x) (hiS x)) = encWords n x := by
  unfold encWords
  have e := mid_run x
  have hb := runOf_big x.cps.toList
  have : mid (mid x (loS x) (hiS x)) (lo (mid x (loS x) (hiS x)).cps.toList) (hi (mid x (loS x) (hiS x)).cps.toList) = mid x (loS x) (hiS x) := by
    exact str_ext ((mid_run _).trans (runOf_run (by rw [e]; exact hb)))
  rw [this]
theorem hi_bounds {l : List Nat} (h : lo l < l.length) : lo l < hi l ∧ hi l ≤ l.length := by
  have h1 := runOf_pos h
  rw [runOf_eq] at h1
  exact ⟨by unfold hi; omega, hi_le l⟩
theorem un {a : Option Value} {w v : Value} {x y : Str} (h : a = some w) (hne : y ≠ x := by decide) : (if y = x then some v else a) = some w := (if_neg hne).trans h
theorem ue {a : Option Value} {v : Value} {x : Str} : (if x = x then some v else a) = some v := if_pos rfl
def forBodyOf : Stmt → List Stmt
  | .For _ _ b _ _ => b
  | _ => []
def ifBodyOf : Stmt → List Stmt
  | .If _ b _ _ => b
  | _ => []
def ifElseOf : Stmt → List Stmt
  | .If _ _ b _ => b
  | _ => []
def nth (l : List Stmt) (i : Nat) : Stmt := (l[i]?).getD (.Pass ⟨0, 0, 0, 0⟩)
theorem not_frame {h : Heap} {L a : Addr} {o : Obj} {m : Str → Option Value} (hn : h.Ns L m) (ho : h.get? a = some o) (hd : ∀ es n, o.data ≠ .dict es n) : a ≠ L := fun q => by
  obtain ⟨o', es, ep, ho', hd2, _⟩ := hn
  rw [q, ho'] at ho; cases ho; exact hd _ _ hd2
theorem Kp.get {h h' : Heap} {L a : Addr} {o : Obj} {m : Str → Option Value} (K : Kp [L] h h') (hn : h.Ns L m) (ho : h.get? a = some o) (hd : ∀ es n, o.data ≠ .dict es n) : h'.get? a = some o :=
  K a o ho (by simpa using not_frame hn ho hd)
def pre (x : Str) (k : Nat) : Str := ⟨(x.cps.toList.take k).toArray⟩
def suf (x : Str) (k : Nat) : Str := ⟨(x.cps.toList.drop k).toArray⟩
theorem pre_list (x : Str) (k : Nat) : (pre x k).cps.toList = x.cps.toList.take k := by simp [pre]
theorem suf_list (x : Str) (k : Nat) : (suf x k).cps.toList = x.cps.toList.drop k := by simp [suf]
theorem slice_pre (x : Str) {k : Nat} (h : k ≤ x.length) : Txt.slice x none (some (k : Int)) = pre x k := by
  have := beq_iff_eq.mp (slice_closes_toL (x := x) (j := (k : Int)) (by omega) (by omega))
  rw [this]; simp [pre]
theorem slice_suf (x : Str) {k : Nat} (h : k ≤ x.length) : Txt.slice x (some (k : Int)) none = suf x k := by
  rw [slice_from_eq (b := (x.length : Int)) (by omega) (by omega) rfl]
  unfold suf
  congr 2
  refine List.take_of_length_le ?_
  have : x.cps.toList.length = x.length := Array.length_toList
  rw [List.length_drop]; omega
theorem Fine.pre {x : Str} (h : Fine x) (k : Nat) : Fine (pre x k) := by
  refine ⟨?_, fun c hc => h.2 c ?_⟩
  · have h1 := h.1
    have : x.cps.toList.length = x.length := Array.length_toList
    show ((x.cps.toList.take k).toArray).size ≤ _
    rw [List.size_toArray, List.length_take]; omega
  · rw [pre_list] at hc; exact List.mem_of_mem_take hc
theorem Fine.suf {x : Str} (h : Fine x) (k : Nat) : Fine (suf x k) := by
  refine ⟨?_, fun c hc => h.2 c ?_⟩
  · have h1 := h.1
    have : x.cps.toList.length = x.length := Array.length_toList
    show ((x.cps.toList.drop k).toArray).size ≤ _
    rw [List.size_toArray, List.length_drop]; omega
  · rw [suf_list] at hc; exact List.mem_of_mem_drop hc
section
variable {prog : Program} {w : World} {A : Around} {E : Value → Shared → Prop} {B h : Heap} {g : Array GenState} {d : Drawn} {tk : Nat} {os : OsState} {L f : Addr} {cd : Value} {m : Str → Option Value} {x : Str} {tx : Tok}
theorem istup {h : Heap} {p : Addr} {vs : Array Value} (hp : h.get? p = some { cls := .type "tuple", data := .seq vs }) : IsTup h p vs := ⟨_, hp, rfl, _, rfl⟩
theorem sub_tuple {value slice : PySem.Expr} {l : Addr} {items : Array Value} {k : Int} {j : Nat} {u : Tok} {v : Value} {Q : Value → Shared → Prop} {s : Shared}
    (hl : IsTup s.heap l items) (h0 : -(2 ^ 63) ≤ k) (hhi : k < 2 ^ 63) (hj : seqIndex? k items.size = some j) (hx : items[j]? = some v) (h : Q v s)
    (hs : subscripted slice false (.ref l) (.int k u) = operate [.ref l, .int k u] (getItem (.ref l) (.int k u)) := by with_unfolding_all rfl) :
    wpAny (model prog w) A (subscriptTail value slice (.ref l) (.int k u)) Q E s :=
  tail_any hl.typeIs PyProof.Rows.slot_tuple_getitem.lookup (getItem_tuple hl h0 hhi hj hx h) hs
theorem octs_join (x : Str) (k : Nat) : octs x = octs (pre x k) ++ octs (suf x k) := by
  unfold octs
  rw [pre_list, suf_list, List.map_take, List.map_drop]
  apply Array.ext'
  simp
theorem unpk {p : Addr} {items : Array Value} {Q : List Value → Shared → Prop} {n : Nat} (hh : A.handled = none) (hp : h.get? p = some { cls := .type "tuple", data := .seq items }) (hn : n = items.size)
    (hq : ∀ h', h.StaysIn h' → Q items.toList ⟨h', g, d, tk, os⟩) : wpAny (model prog w) A (unpackItems (.ref p) n none) Q E ⟨h, g, d, tk, os⟩ := by
  subst hn
  exact unpackItems_tuple hh (istup hp) fun h' he => hq h' fun b o e => he b o (Nat.ne_of_lt (Heap.lt_size e)) e
theorem storeN {name y : Str} {scope : Scope} {v : Value} {Q : Unit → Shared → Prop} (F : Fr B L h m)
    (hq : ∀ h2, Fr B L h2 (fun z => if z = y then some v else m z) → Kp [L] h h2 → Q () ⟨h2, g, d, tk + 1, os⟩)
    (hk : scope.kind = .function := by rfl) (hl : (envOf name scope L f cd).kindOf y = some .local := by rfl) :
    wpAny (model prog w) A (storeName (envOf name scope L f cd) y v) Q E ⟨h, g, d, tk, os⟩ :=
  wpAny_storeName_local (s := ⟨h, g, d, tk, os⟩) (m := m) hl F.ns (fun h2 hn2 hs2 => hq h2 (F.set hn2 hs2) (Kp.of_same hs2 (List.mem_singleton.mpr rfl)))
    (by show (scope.kind == .class || (scope.kind == .module && L != mainGlobals)) = false; rw [hk]; rfl)
end
end Mine
end
section
open PySem PySem.W PyProof.Rows
open PySem.Builtin PySem.Builtin.Str
namespace Mine

section
variable {prog : Program} {w : World} {A : Around} {E : Value → Shared → Prop} {B h : Heap} {g : Array GenState} {d : Drawn} {tk : Nat} {os : OsState} {L f : Addr} {cd : Value} {m : Str → Option Value} {name : Str} {scope : Scope}

theorem caught {Q : Flow → Shared → Prop} {P : Flow → (Str → Option Value) → Prop} {e T : Addr} {X Y : String} {dd : Option Addr} {vs : Array Value} {sl : Array (Option Value)} {n : Str} {b₀ : Stmt} {suite : List Stmt} {p1 pos : Pos} {rest : List ExceptHandler}
    (hfr : A.frames = some [envOf name scope L f cd]) (hBL : B.get? L = none) (F : Fr B L h m) (gy : GlobalIs B (Str.ofString Y) (.type Y)) (hBe : B.get? e = none) (hBT : B.get? T = none)
    (he : h.get? e = some ⟨.type X, dd, .fields vs, sl⟩) (h1 : vs[1]? = some (.ref T)) (hT : TB h T .none) (hTe : T ≠ e)
    (hexc : isSubtype (.type Y) (.type "BaseException") = pure true) (hnt : isSubtype (.type ((Manifest.find? Y).elim "type" fun x => x.metatype)) (.type "tuple") = pure false) (hsub : isSubtype (.type X) (.type Y) = pure true)
    (hbody : ∀ h' tk' T' (E' : Value → Shared → Prop), Fr B L h' (fun y => if y = n then some (.ref e) else m y) → Kp [L, e, T] h h' → h'.get? e = some ⟨.type X, dd, .fields (vs.setIfInBounds 1 (.ref T')), sl⟩ →
      wpAny (model prog w) (A.mark (some (.ref e))) (execs (b₀ :: suite) (envOf name scope L f cd)) (fun fl s' => ∃ h2 m2 tk2, s' = ⟨h2, g, d, tk2, os⟩ ∧ Fr B L h2 m2 ∧ Kp [L] h' h2 ∧ P fl m2) E' ⟨h', g, d, tk', os⟩)
    (hq : ∀ fl h3 m2 v tk3, P fl m2 → Fr B L h3 (fun y => if y = n then v else m2 y) → Kp [L, e, T] h h3 → Q fl ⟨h3, g, d, tk3, os⟩)
    (hk : scope.kind = .function := by rfl) (hn : (envOf name scope L f cd).kindOf n = some .local := by rfl) (hy : (envOf name scope L f cd).kindOf (Str.ofString Y) = some .globalImplicit := by rfl) (hdb : (Str.ofString Y == ("__debug__" : Str)) = false := by decide) :
    wpAny (model prog w) A (noteFrame (.ref e) (envOf name scope L f cd)) (fun _ s₂ => wpAny (model prog w) A (setFlight (.ref e) none) (fun _ s₃ =>
      wpAny (model prog w) A (handleBy (.ref e) (envOf name scope L f cd) (.ExceptHandler (some (.Name (Str.ofString Y) p1)) (some n) (b₀ :: suite) pos :: rest)) Q E s₃) E s₂) E ⟨h, g, d, tk, os⟩ := by
  have hkm : (envOf name scope L f cd).scope.kind ≠ .module := by show scope.kind ≠ .module; rw [hk]; decide
  have hff : h.FunFrames noHeap [envOf name scope L f cd] := Heap.FunFrames.cons hkm rfl F.ns (noHeap_get L) trivial
  have hfm : ([envOf name scope L f cd] : List Env).filterMap (·.frame) = [L] := rfl
  have hp : ((envOf name scope L f cd).scope.kind == .class || ((envOf name scope L f cd).scope.kind == .module && (envOf name scope L f cd).locals != (envOf name scope L f cd).globals)) = false := by
    show (scope.kind == .class || (scope.kind == .module && L != mainGlobals)) = false; rw [hk]; rfl
  have eL : e ≠ L := not_frame F.ns he (fun _ _ q => by cases q)
  have step : ∀ {h1 h2 : Heap} {xs : List Addr} {m1 : Str → Option Value}, Tch xs [L] h1 h2 → L ∉ xs → (∀ a ∈ xs, B.get? a = none) → Fr B L h1 m1 → Fr B L h2 m1 := fun x hL hx F1 =>
    ⟨x.ns hL F1.ns, fun b o eb => x.keep b o (F1.keep b o eb) (fun q => by rw [hx b q] at eb; cases eb) (fun q => by rw [List.mem_singleton.mp q, hBL] at eb; cases eb), F1.above⟩
  obtain ⟨oT, ts, hT1, hT2, hT3⟩ := id hT
  have TL : T ≠ L := not_frame F.ns hT1 (fun _ _ q => by rw [hT2] at q; cases q)
  refine note_next hfr hff rfl he h1 hT hTe fun h3 T3 K3 hl3 hT3' hTe3 ex3 tb3 => ?_
  rw [hfm] at K3
  have F3 := step K3 (by simp [eL.symm, TL.symm]) (by intro a ha; simp at ha; rcases ha with rfl | rfl <;> assumption) F
  have hv1 : 1 < vs.size := (Array.getElem?_eq_some_iff.mp h1).1
  have hg1 : (vs.setIfInBounds 1 (.ref T3))[1]? = some (.ref T3) := by simp [hv1]
  have hBT3 : B.get? T3 = none := by
    cases q : B.get? T3 with
    | none => rfl
    | some o => have := F.keep _ _ q; rw [hT3'] at this; cases this
  have T3L : ∀ {h : Heap} {m : Str → Option Value} {fl : Value}, h.Ns L m → TB h T3 fl → T3 ≠ L := fun hn ⟨oT, ts, a1, a2, _⟩ => not_frame hn a1 (fun _ _ q => by rw [a2] at q; cases q)
  refine set_flight ex3 (T := T3) hg1 tb3 fun h4 u4 tb4 => ?_
  have F4 := step (Tch.of_up1 (fs := [L]) u4 (List.mem_singleton.mpr rfl)) (by simpa using (T3L F3.ns tb3).symm) (by simpa using hBT3) F3
  have ex4 := (u4.same e (Ne.symm hTe3)).trans ex3
  refine wpAny_handleBy_builtin_as (X := X) (T := Y) (b := true) hexc hnt hsub (ld_global gy F4.keep ⟨rfl, ⟨_, ex4, rfl⟩, ?_⟩ hk hy rfl rfl hdb)
  rw [if_pos rfl]
  refine set_flight ex4 (T := T3) hg1 tb4 fun h5 u5 tb5 => ?_
  have F5 := step (Tch.of_up1 (fs := [L]) u5 (List.mem_singleton.mpr rfl)) (by simpa using (T3L F4.ns tb4).symm) (by simpa using hBT3) F4
  have ex5 := (u5.same e (Ne.symm hTe3)).trans ex4
  refine storeN (m := m) F5 (fun h6 F6 K6 => ?_) hk hn
  have ex6 := K6.get F5.ns ex5 (fun _ _ q => by cases q)
  have K36 : Kp [L, e, T] h h6 := by
    have k3 : Kp [L, e, T] h h3 := fun p o eo np => K3.keep p o eo (fun q => np (by simp at q ⊢; rcases q with rfl | rfl <;> simp)) (fun q => np (by rw [List.mem_singleton.mp q]; simp))
    have k4 : ∀ p o, h3.get? p = some o → p ≠ T3 → h5.get? p = some o := fun p o eo np => (u5.same p np).trans ((u4.same p np).trans eo)
    exact fun p o eo np => K6 p o (k4 p o (k3 p o eo np) (fun q => by rw [q, hT3'] at eo; cases eo)) (fun q => np (by rw [List.mem_singleton.mp q]; simp))
  refine wpAny_mono (hbody h6 _ T3 _ F6 K36 ex6) (fun fl s' hs => ?_) fun _ _ q => q
  obtain ⟨h7, m7, tk7, rfl, F7, K7, hP⟩ := hs
  refine wpAny_nameGoes_keeps (env := envOf name scope L f cd) hn F7.ns hp fun h8 v hn8 hs8 => ?_
  exact hq fl h8 m7 v _ hP (F7.set hn8 hs8) ((K36.trans (K7.mono (by simp))).trans (Kp.of_same hs8 (.head _)))
end
end Mine
end
section
open PySem PySem.W PyProof.Rows
open PySem.Builtin PySem.Builtin.Str
namespace Mine

def stmt9 (i : Nat) : Stmt := (PySem.Challenge.pw_km0023_09.main.body[i]?).getD (.Pass ⟨0, 0, 0, 0⟩)
abbrev hexS : Str := Str.ofString "0123456789abcdef"
def hexAt (c p : Nat) : Nat := hexS.cps.getD (c / 16 ^ p % 16) 0
def hexText (wd c : Nat) : Str := ⟨((List.range wd).map fun j => hexAt c (wd - 1 - j)).toArray⟩
theorem hexS_len : hexS.length = 16 := by decide +kernel
abbrev fdH (doc pm cdv ct : Value) (an : Option Addr) : FuncData := fnOf (Str.ofString "_law_hex") (Str.ofString "_law_hex") (paramsOf (stmt9 3)) (bodyOf (stmt9 3)) (scopeOf (stmt9 3)) .none .none doc pm an cdv ct

theorem walks_lt {prog : Program} {w : World} {A : Around} {I : Addr} {fp wr : List Addr} {n : Nat} {P : Nat → Value → Prop} {St : Nat → Heap → Prop} (W : Walks prog w A I fp wr n P St) : Walks prog w A I fp wr n (fun i v => i < n ∧ P i v) St :=
  ⟨W.sub, W.frame, fun i s Q E hi st hQ => W.item i s Q E hi st fun v h' tk hp st' hk => hQ v h' tk ⟨hi, hp⟩ st' hk, W.done, W.self⟩
theorem hex_strs {wd c : Nat} : ∀ (vs ys : List Value) (k : Nat), Paired (fun (v y : Value) => ∃ (p : Int) (t u : Tok), v = .int p t ∧ y = .str ⟨#[hexAt c p.toNat]⟩ u) vs ys →
    (∀ (j : Nat) (v : Value), vs[j]? = some v → ∃ t, v = .int ((wd : Int) - 1 - ((k + j : Nat) : Int)) t) → StrsAre ys ((List.range' k vs.length).map fun j => (⟨#[hexAt c (wd - 1 - j)]⟩ : Str))
  | _, _, _, .nil, _ => .nil
  | v :: vs, y :: ys, k, .cons hab hr, h => by
    obtain ⟨p, t, u, e1, rfl⟩ := hab
    obtain ⟨t', e2⟩ := h 0 v rfl
    rw [e1] at e2
    have hp : p = (wd : Int) - 1 - ((k + 0 : Nat) : Int) := by injection e2
    have hn : p.toNat = wd - 1 - k := by omega
    rw [hn, List.length_cons, List.range'_succ, List.map_cons]
    exact .cons _ _ (hex_strs vs ys (k + 1) hr fun j v hv => by
      obtain ⟨t2, e3⟩ := h (j + 1) v hv
      exact ⟨t2, by rw [e3]; congr 1; omega⟩)
theorem one_lens (g : Nat → Nat) : ∀ (n k : Nat), (((List.range' k n).map fun j => (⟨#[g j]⟩ : Str)).map (·.length)).sum = n
  | 0, _ => rfl
  | n + 1, k => by
    have ih := one_lens g n (k + 1)
    have : (⟨#[g k]⟩ : Str).length = 1 := rfl
    simp only [List.range'_succ, List.map_cons, List.sum_cons, this] at ih ⊢
    omega
theorem hex_num (c p : Nat) : (((c : Int).fdiv ((16 ^ p : Nat) : Int)).fmod 16) = ((c / 16 ^ p % 16 : Nat) : Int) := by
  have h1 : (0 : Int) ≤ ((16 ^ p : Nat) : Int) := Int.natCast_nonneg _
  rw [Int.fdiv_eq_ediv_of_nonneg _ h1, Int.fmod_eq_emod_of_nonneg _ (by decide), ← Int.natCast_ediv]
  rfl
section
variable {prog : Program} {w : World} {A : Around} {E : Value → Shared → Prop} {s : Shared} {B : Heap} {f : Addr}

theorem pow16 {p : Int} {t u : Tok} {Q : Value → Shared → Prop} (h0 : 0 ≤ p) (h8 : p ≤ 8) (h : ∀ k tk, Q (.int ((16 ^ p.toNat : Nat) : Int) k) { s with toks := tk }) : wpAny (model prog w) A (binaryOp .Pow (.int 16 t) (.int p u)) Q E s := by
  by_cases hp : p = 0
  · subst hp
    exact AutoIntOps.pow_0 (by decide) (by decide) (h _ _)
  · refine AutoIntOps.pow_4 h0 (by simpa using hp) (by decide) (by decide) ?_ ?_
    · have : Builtin.Int.intBits 16 = 5 := by decide +kernel
      rw [this]
      unfold Builtin.Int.intTooBig
      have hb : 1000 ≤ bitsLine := by decide +kernel
      simp; omega
    · have e : (16 : Int) ^ p.toNat = ((16 ^ p.toNat : Nat) : Int) := by rw [Int.natCast_pow]; rfl
      rw [e]; exact h _ _

set_option maxHeartbeats 4000000 in
theorem hex_call {c wd : Nat} {tc tw : Tok} {R : Result → Shared → Prop} (hf : FnIs B f (Str.ofString "_law_hex") (stmt9 3)) (hh : A.handled = none) (hroom : A.depth < recursionLimit) (bs : B.StaysIn s.heap) (hlim : B.NoLimit)
    (grange : GlobalIs B "range" (.type "range")) (hw : wd = 4 ∨ wd = 8)
    (h : ∀ h' tk k, s.heap.StaysIn h' → R (.ok (.ret (.str (hexText wd c) k))) { s with heap := h', toks := tk }) :
    codeAny (model prog w) A (.call (.ref f) ⟨[.int c tc, .int wd tw], []⟩) R s := by
  obtain ⟨o, doc, pm, cdv, ct, an, ho, hd, hcd⟩ := hf
  refine codeAny_call_cells (fd := fdH doc pm cdv ct an) (body := bodyOf (stmt9 3)) (binds := [(Str.ofString "code", .int c tc), (Str.ofString "width", .int wd tw)]) hroom (bs _ _ ho) hd (hlim.keeps bs) (hcd.keeps bs) rfl rfl rfl ?_ (fun s1 x => ?_)
  · intro y hy
    simp only [List.mem_cons, List.not_mem_nil, or_false] at hy
    rcases hy with rfl | rfl
    · exact .inr ⟨rfl, rfl⟩
    · exact .inl rfl
  obtain ⟨h1, tk1, rfl⟩ := x.toInCall.same
  have bs1 : B.StaysIn h1 := fun b o e => x.toInCall.keep b o (bs b o e)
  refine wpAny_execs_cons (wpAny_Return_some (MethodCall_ (Calls.Constant_str (GM.join (callWith_method1 (spliced_more ?_))))))
  refine wpAny_ListComp_free (fun _ => true) (fun (v y : Value) => ∃ (p : Int) (t u : Tok), v = .int p t ∧ y = .str ⟨#[hexAt c p.toNat]⟩ u) (cl := [(Str.ofString "code", s.heap.objs.size + 1)]) rfl (by decide) rfl (by decide) rfl ?_
  refine Call_ ?_
  refine ld_global grange bs1 ?_ rfl rfl rfl rfl
  refine PyProof.Rows.callWith_type1 (spliced_more (wpAny_BinOp ?_))
  have hk1 : (callEnvC (fdH doc pm cdv ct an) s.heap.objs.size f).kindOf (Str.ofString "code") = some .cell := by rfl
  have hk2 : (callEnvC (fdH doc pm cdv ct an) s.heap.objs.size f).kindOf (Str.ofString "width") = some .local := by rfl
  have hmw : bindL (callEnvC (fdH doc pm cdv ct an) s.heap.objs.size f).kindOf [(Str.ofString "code", .int c tc), (Str.ofString "width", .int wd tw)] (fun _ => none) (Str.ofString "width") = some (.int wd tw) := by
    unfold bindL bindL bindL
    rw [hk1, hk2]
    rfl
  refine NameLC (x.tok _) rfl rfl hmw ?_ (by decide)
  refine wpAny_Constant_int (sub_int ?_)
  refine spliced_more (wpAny_UnaryOp (wpAny_Constant_int (PyProof.Rows.neg_int (spliced_more (wpAny_UnaryOp (wpAny_Constant_int (PyProof.Rows.neg_int (spliced_none ?_))))))))
  dsimp only
  have hsm : Builtin.Range.small ((wd : Int) - 1) (-1) (-1) = true := by rcases hw with rfl | rfl <;> decide +kernel
  have hrs : Builtin.Range.rangeSize ((wd : Int) - 1) (-1) (-1) = ((wd : Nat) : Int) := by rcases hw with rfl | rfl <;> decide +kernel
  have hdv : Builtin.divisionGoesByPylong ((-1 : Int) - ((wd : Int) - 1)) (-1) = false := by rcases hw with rfl | rfl <;> decide +kernel
  have hw8 : wd ≤ 8 := by omega
  refine call_range_3 (by decide) ?_ (.inl hdv)
  dsimp only
  refine wpAny_pyIter_range (IsRange.new _ _ _ _ _ _ _) hsm ?_
  rw [hrs]
  dsimp only
  generalize hro : ({ cls := .type "range", data := .fields _ } : Obj) = robj
  generalize hio : ({ cls := .type "range_iterator", data := .fields _ } : Obj) = iobj
  have K2 : h1.StaysIn ((h1.push robj).push iobj) := fun b o e => Heap.get?_push_of_some _ (Heap.get?_push_of_some _ e)
  have hi3 := Heap.get?_push_size (h1.push robj) (o := iobj) (by rw [← hio]; rfl)
  refine ⟨(h1.push robj).objs.size, _, _, _, _, _, rfl, walks_lt (Walks.range (prog := prog) (w := w) (A := A.deeper (callEnvC (fdH doc pm cdv ct an) s.heap.objs.size f)) hh (h1.push robj).objs.size ((wd : Int) - 1) (-1) wd), ?_, ?_, ?_, ?_, ?_⟩
  · have hsl : sizeLine = 16777216 := rfl
    omega
  · have e1 : (((wd : Int) - 1) + (((0 : Nat) : Int)) * (-1)) = (wd : Int) - 1 := by omega
    have e2 : (((wd : Nat) : Int) - ((0 : Nat) : Int)) = (wd : Int) := by omega
    show IsRangeIter ((h1.push robj).push iobj) (h1.push robj).objs.size _ _ _
    rw [e1, e2]
    rw [← hio] at hi3 ⊢
    exact hi3
  · intro b hb
    rw [List.mem_singleton.mp hb]
    show (h1.push robj).objs.size < ((h1.push robj).push iobj).objs.size
    rw [Heap.size_push (h1.push robj) iobj]; exact Nat.lt_succ_self _
  · refine ⟨fun C i v s3 m3 E' hC hP hn hv hk ht => wpAny_pure ⟨rfl, s3.heap, s3.toks, rfl, fun _ _ e => e⟩, fun C i v s3 m3 E' hC hP hp hn hv hk ht => ?_⟩
    obtain ⟨hiw, tp, rfl⟩ := hP
    have hc1 : h1.IsCell (s.heap.objs.size + 1) (some (.int c tc)) := by
      have := x.cell (Str.ofString "code") (s.heap.objs.size + 1) rfl
      unfold bindC bindC bindC at this
      rw [hk1, hk2] at this
      exact this
    have hc3 : s3.heap.IsCell (s.heap.objs.size + 1) (some (.int c tc)) := by
      obtain ⟨oc, hoc, hdc⟩ := hc1
      refine ⟨oc, hk _ _ (fun q => ?_) (K2 _ _ hoc), hdc⟩
      exact absurd (Heap.lt_size hoc) (by rw [List.mem_singleton.mp q, Heap.size_push]; exact Nat.not_lt.mpr (Nat.le_succ _))
    refine Subscript_ (Calls.Constant_str (wpAny_BinOp (wpAny_BinOp ?_)))
    refine wpAny_Name (wpAny_loadName_cell rfl rfl rfl hc3 ?_) (by decide)
    refine wpAny_BinOp (wpAny_Constant_int (wpAny_Name (wpAny_loadName_local rfl rfl hn hv (pow16 (by omega) (by omega) fun kp tkp => ?_)) (by decide)))
    have hp : ((wd : Int) - 1 + (i : Int) * (-1)).toNat = wd - 1 - i := by omega
    rw [hp]
    have hp7 : wd - 1 - i ≤ 7 := by omega
    have hpow : 16 ^ (wd - 1 - i) ≤ 16 ^ 7 := Nat.pow_le_pow_right (by decide) hp7
    have hpos : 0 < 16 ^ (wd - 1 - i) := Nat.pow_pos (by decide)
    refine floordiv_int (by omega) ?_ (.inl (PyProof.noPylong_small (by rw [Int.natAbs_natCast]; exact Nat.lt_of_le_of_lt hpow (by decide))))
    refine wpAny_Constant_int (mod_int' (by decide) ?_)
    dsimp only
    rw [hex_num]
    have hlen := hexS_len
    have hd16 : c / 16 ^ (wd - 1 - i) % 16 < 16 := Nat.mod_lt _ (by decide)
    refine item_str (x := hexS) (fitsSsize_of (N := 9223372036854775808) (by omega) (by omega) (Int.le_refl _)) (by omega) (by omega) (fun _ => ?_)
    have e9 : Txt.item hexS ((c / 16 ^ (wd - 1 - i) % 16 : Nat) : Int) = ⟨#[hexAt c ((wd : Int) - 1 + (i : Int) * (-1)).toNat]⟩ := by
      rw [eq_of_beq (item_closes (x := hexS) (i := ((c / 16 ^ (wd - 1 - i) % 16 : Nat) : Int)) ⟨by omega, by omega⟩), hp]
      rfl
    rw [e9]
    exact ⟨⟨_, _, _, rfl, rfl⟩, s3.heap, _, rfl, fun _ _ e => e⟩
  · intro D h' tk ys vs hD hl hpl hlen hP hF hk
    have hF2 : Paired (fun (v y : Value) => ∃ (p : Int) (t u : Tok), v = .int p t ∧ y = .str ⟨#[hexAt c p.toNat]⟩ u) vs ys.toList := by
      rw [show vs.filter (fun _ => true) = vs from List.filter_eq_self.mpr fun _ _ => rfl] at hF; exact hF
    have hst := hex_strs (wd := wd) (c := c) vs ys.toList 0 hF2 (fun j v hv => by
      obtain ⟨_, t, rfl⟩ := hP j v hv
      exact ⟨t, by congr 1⟩)
    rw [hlen] at hst
    refine spliced_none (join_listC hl hst (by decide +kernel) ?_ fun k2 tk2 => ?_)
    · have hsl : sizeLine = 16777216 := rfl
      have := one_lens (fun j => hexAt c (wd - 1 - j)) wd 0
      rw [List.length_map, List.length_range']
      omega
    · have e3 : Txt.join (Str.ofString "") ((List.range' 0 wd).map fun j => (⟨#[hexAt c (wd - 1 - j)]⟩ : Str)) = hexText wd c := by
        have e4 : Str.ofString "" = ⟨#[]⟩ := by decide +kernel
        rw [show ((List.range' 0 wd).map fun j => (⟨#[hexAt c (wd - 1 - j)]⟩ : Str)) = ((List.range' 0 wd).map fun j => hexAt c (wd - 1 - j)).map (fun k => (⟨#[k]⟩ : Str)) from by rw [List.map_map]; rfl, e4]
        show Builtin.Str.glued _ _ = _
        rw [StrLaws.glued_eq_join, ← List.range_eq_range']
        exact join_ones _
      rw [e3]
      refine h _ _ _ fun b o e => ?_
      have e1 := x.toInCall.keep b o e
      refine hk b o (fun q => ?_) (K2 b o e1)
      exact absurd (Heap.lt_size e1) (by rw [List.mem_singleton.mp q, Heap.size_push]; exact Nat.not_lt.mpr (Nat.le_succ _))
end
end Mine
end
section
open PySem PySem.W PyProof.Rows
open PySem.Builtin PySem.Builtin.Str
namespace Mine

def hexL (wd c : Nat) : List Nat := (List.range wd).map fun j => hexAt c (wd - 1 - j)
theorem hexText_list (wd c : Nat) : (hexText wd c).cps.toList = hexL wd c := by simp [hexText, hexL]
theorem hexAt_succ (c p : Nat) : hexAt c (p + 1) = hexAt (c / 16) p := by
  unfold hexAt
  rw [Nat.pow_succ, Nat.mul_comm, ← Nat.div_div_eq_div_mul]
theorem hexL_succ (wd c : Nat) : hexL (wd + 1) c = hexL wd (c / 16) ++ [hexAt c 0] := by
  unfold hexL
  rw [List.range_succ, List.map_append]
  congr 1
  · refine List.map_congr_left fun j hj => ?_
    have hj' := List.mem_range.mp hj
    have : wd + 1 - 1 - j = (wd - 1 - j) + 1 := by omega
    rw [this, hexAt_succ]
  · simp
theorem digit_hex : ∀ d : Fin 16, (Nat.digitChar d.val).toNat = hexAt d.val 0 := by decide +kernel
theorem hexAt_zero (c : Nat) : hexAt c 0 = hexAt (c % 16) 0 := by
  unfold hexAt; simp
theorem padded (wd : Nat) : ∀ c, c < 16 ^ (wd + 1) → List.replicate (wd + 1 - ((Nat.toDigits 16 c).map Char.toNat).length) 48 ++ (Nat.toDigits 16 c).map Char.toNat = hexL (wd + 1) c := by
  induction wd with
  | zero =>
    intro c hc
    have hc' : c < 16 := by simpa using hc
    rw [Nat.toDigits_of_lt_base hc']
    have := digit_hex ⟨c, hc'⟩
    simp [hexL, this]
  | succ wd ih =>
    intro c hc
    rw [hexL_succ, ← ih (c / 16) (by rw [Nat.pow_succ] at hc; exact Nat.div_lt_of_lt_mul (by rw [Nat.mul_comm]; exact hc))]
    by_cases h16 : c < 16
    · have h0 : c / 16 = 0 := Nat.div_eq_of_lt h16
      rw [Nat.toDigits_of_lt_base h16, h0]
      have := digit_hex ⟨c, h16⟩
      have e0 : (Nat.toDigits 16 0).map Char.toNat = [48] := by decide
      rw [e0]
      simp only [List.map_cons, List.map_nil, List.length_cons, List.length_nil, this]
      have e1 : wd + 1 + 1 - (0 + 1) = wd + 1 := by omega
      have e2 : wd + 1 - (0 + 1) = wd := by omega
      rw [e1, e2, List.replicate_succ']
    · have hb := Nat.toDigits_of_base_le (b := 16) (n := c) (by decide) (by omega)
      rw [hb]
      have h5 : (Nat.digitChar (c % 16)).toNat = hexAt c 0 := by rw [hexAt_zero]; exact digit_hex ⟨c % 16, Nat.mod_lt _ (by decide)⟩
      simp only [List.map_append, List.map_cons, List.map_nil, List.length_append, List.length_cons, List.length_nil, h5]
      rw [← List.append_assoc]
      congr 3
      omega
end Mine
end
section
open PySem PySem.W PyProof.Rows
open PySem.Builtin PySem.Builtin.Str
namespace Mine

def more9 (a : Int) : Int := a.fdiv 3
def code9 (a : Int) : Nat :=
  if a.fmod 3 = 0 then (945 + (more9 a).fmod 25).toNat else if a.fmod 3 = 1 then (57344 + (more9 a).fmod 6400).toNat else (983040 + (more9 a).fmod 65534).toNat
def fig9 (a : Int) : List Nat := if a.fmod 3 = 2 then [92, 85] ++ hexL 8 (code9 a) else [92, 117] ++ hexL 4 (code9 a)
def sh9 (a : Int) : List Nat := if a.fmod 3 = 0 then [code9 a] else fig9 a

theorem within_false : ∀ (l : List (Nat × Nat)) (c : Nat), (∀ p ∈ l, c < p.1 ∨ p.2 < c) → Unicode.within l c = false
  | [], _, _ => rfl
  | (a, b) :: r, c, h => by
    unfold Unicode.within
    have h1 := h (a, b) (.head _)
    dsimp only at h1
    have ih := within_false r c fun p hp => h p (.tail _ hp)
    by_cases hc : c < a
    · rw [if_pos hc]
    · rw [if_neg hc, ih]
      simp; omega
theorem private1 : ∀ p ∈ UnicodeData.printable, 63743 < p.1 ∨ p.2 < 57344 := by decide +kernel
theorem private2 : ∀ p ∈ UnicodeData.printable, 1048573 < p.1 ∨ p.2 < 983040 := by decide +kernel
theorem greek_repr : ∀ k : Fin 25, reprChar 39 (945 + k.val) = [945 + k.val] := by decide +kernel

theorem code9_kind (a : Int) : (a.fmod 3 = 0 ∧ 945 ≤ code9 a ∧ code9 a < 970) ∨ (a.fmod 3 = 1 ∧ 57344 ≤ code9 a ∧ code9 a ≤ 63743) ∨ (a.fmod 3 = 2 ∧ 983040 ≤ code9 a ∧ code9 a ≤ 1048573) := by
  have h0 : 0 ≤ a.fmod 3 := Int.fmod_nonneg_of_pos _ (by decide)
  have h1 : a.fmod 3 < 3 := Int.fmod_lt_of_pos _ (by decide)
  have m1 : 0 ≤ (more9 a).fmod 25 := Int.fmod_nonneg_of_pos _ (by decide)
  have m2 : (more9 a).fmod 25 < 25 := Int.fmod_lt_of_pos _ (by decide)
  have m3 : 0 ≤ (more9 a).fmod 6400 := Int.fmod_nonneg_of_pos _ (by decide)
  have m4 : (more9 a).fmod 6400 < 6400 := Int.fmod_lt_of_pos _ (by decide)
  have m5 : 0 ≤ (more9 a).fmod 65534 := Int.fmod_nonneg_of_pos _ (by decide)
  have m6 : (more9 a).fmod 65534 < 65534 := Int.fmod_lt_of_pos _ (by decide)
  unfold code9
  by_cases k0 : a.fmod 3 = 0
  · left; rw [if_pos k0]; exact ⟨k0, by omega, by omega⟩
  · by_cases k1 : a.fmod 3 = 1
    · right; left; rw [if_neg k0, if_pos k1]; exact ⟨k1, by omega, by omega⟩
    · right; right; rw [if_neg k0, if_neg k1]; exact ⟨by omega, by omega, by omega⟩

theorem repr_priv {c : Nat} (hp : Unicode.isPrintable c = false) (h : 256 ≤ c) (h8 : c < 16 ^ 8) :
    reprChar 39 c = if c < 65536 then [92, 117] ++ hexL 4 c else [92, 85] ++ hexL 8 c := by
  unfold reprChar
  dsimp only
  have n1 : ¬ ((c == 39 || c == 92) = true) := by simp; omega
  have n2 : ¬ ((c == 10) = true) := by simp; omega
  have n3 : ¬ ((c == 13) = true) := by simp; omega
  have n4 : ¬ ((c == 9) = true) := by simp; omega
  rw [if_neg n1, if_neg n2, if_neg n3, if_neg n4, hp, if_neg (by decide), if_neg (by omega)]
  by_cases h16 : c < 65536
  · rw [if_pos h16, if_pos h16, padded 3 c (by omega)]
  · rw [if_neg h16, if_neg h16, padded 7 c h8]
theorem repr9 (a : Int) : reprChar 39 (code9 a) = sh9 a := by
  rcases code9_kind a with ⟨k, h1, h2⟩ | ⟨k, h1, h2⟩ | ⟨k, h1, h2⟩
  · unfold sh9
    rw [if_pos k]
    have := greek_repr ⟨code9 a - 945, by omega⟩
    have e : 945 + (code9 a - 945) = code9 a := by omega
    dsimp only at this
    rw [e] at this
    exact this
  · have hp : Unicode.isPrintable (code9 a) = false := within_false _ _ fun p hp => by rcases private1 p hp with h | h <;> omega
    unfold sh9 fig9
    rw [repr_priv hp (by omega) (by omega), if_pos (by omega), if_neg (by omega), if_neg (by omega)]
  · have hp : Unicode.isPrintable (code9 a) = false := within_false _ _ fun p hp => by rcases private2 p hp with h | h <;> omega
    unfold sh9 fig9
    rw [repr_priv hp (by omega) (by omega), if_neg (by omega), if_neg (by omega), if_pos k]
end Mine
end
section
open PySem PySem.W PyProof.Rows
open PySem.Builtin PySem.Builtin.Str
namespace Mine

theorem foldl_app (f : Nat → List Nat) : ∀ (l : List Nat) (acc : Array Nat), (l.foldl (fun out c => out ++ (f c).toArray) acc).toList = acc.toList ++ (l.map f).flatten
  | [], acc => by simp
  | c :: r, acc => by
    rw [List.foldl_cons, foldl_app f r]
    simp
def flat9 (as : List Int) : List Nat := (as.map sh9).flatten
def row9 (as : List Int) : Str := ⟨(as.map code9).toArray⟩
theorem row9_list (as : List Int) : (row9 as).cps.toList = as.map code9 := by simp [row9]
theorem code9_ge (a : Int) : 256 ≤ code9 a ∧ code9 a < 1114112 := by rcases code9_kind a with ⟨k, h1, h2⟩ | ⟨k, h1, h2⟩ | ⟨k, h1, h2⟩ <;> omega
theorem quote9 (as : List Int) : reprQuote (row9 as) = 39 := by
  unfold reprQuote
  have : (row9 as).cps.contains 39 = false := by
    rw [← Array.contains_toList, row9_list]
    rw [List.contains_eq_any_beq, List.any_eq_false]
    intro c hc
    obtain ⟨a, _, rfl⟩ := List.mem_map.mp hc
    have := (code9_ge a).1
    simp; omega
  rw [this]; simp
theorem repr_row (as : List Int) : (reprText (row9 as)).cps.toList = [39] ++ flat9 as ++ [39] := by
  show ((Array.foldl (fun out c => out ++ (reprChar (reprQuote (row9 as)) c).toArray) #[reprQuote (row9 as)] (row9 as).cps).push (reprQuote (row9 as))).toList = _
  rw [quote9, ← Array.foldl_toList, Array.toList_push, foldl_app, row9_list]
  simp only [List.map_map, flat9]
  have : (reprChar 39 ∘ code9) = sh9 := by funext a; exact repr9 a
  rw [this]
theorem sh9_pos (a : Int) : 0 < (sh9 a).length := by
  unfold sh9 fig9
  split
  · simp
  · split <;> simp
theorem flat9_len : ∀ as : List Int, as.length ≤ (flat9 as).length
  | [] => Nat.zero_le _
  | a :: r => by
    have ih := flat9_len r
    have h := sh9_pos a
    unfold flat9 at ih ⊢
    simp only [List.map_cons, List.flatten_cons, List.length_append, List.length_cons]
    omega
theorem part9 (as : List Int) : ([39] ++ flat9 as ++ [39]).take 20 = ([39] ++ flat9 (as.take 20) ++ [39]).take 20 := by
  by_cases h : as.length ≤ 20
  · rw [List.take_of_length_le h]
  · have hs : flat9 as = flat9 (as.take 20) ++ flat9 (as.drop 20) := by
      unfold flat9
      rw [← List.flatten_append, ← List.map_append, List.take_append_drop]
    have hl := flat9_len (as.take 20)
    have h20 : (as.take 20).length = 20 := by rw [List.length_take]; omega
    rw [hs]
    have e1 : ∀ r : List Nat, ([39] ++ flat9 (as.take 20) ++ r).take 20 = ([39] ++ flat9 (as.take 20)).take 20 := fun r => List.take_append_of_le_length (by simp; omega)
    have e2 : [39] ++ (flat9 (as.take 20) ++ flat9 (as.drop 20)) ++ [39] = [39] ++ flat9 (as.take 20) ++ (flat9 (as.drop 20) ++ [39]) := by simp
    rw [e2, e1, e1]
end Mine
end
section
open PySem PySem.W PyProof.Rows
open PySem.Builtin PySem.Builtin.Str
namespace Mine

def rep (c n : Nat) : Str := ⟨(List.replicate n c).toArray⟩
theorem rep_list (c n : Nat) : (rep c n).cps.toList = List.replicate n c := by simp [rep]
theorem app_list (x y : Str) : (x ++ y).cps.toList = x.cps.toList ++ y.cps.toList := by
  show (x.cps ++ y.cps).toList = _
  simp
def data9 (as : List Int) (k : Nat) : Str := (rep 112 (k % 3) ++ suf (row9 as) k) ++ rep 113 (k % 2)
theorem data9_list (as : List Int) (k : Nat) : (data9 as k).cps.toList = List.replicate (k % 3) 112 ++ ((as.drop k).map code9 ++ List.replicate (k % 2) 113) := by
  unfold data9
  rw [app_list, app_list, rep_list, rep_list, suf_list, row9_list, ← List.map_drop, List.append_assoc]
theorem lo_small {l : List Nat} (h : ∀ c ∈ l, c < 256) : lo l = l.length := by
  unfold lo
  rw [tw_self l fun c hc => by simpa using h c hc]
theorem big9 (as : List Int) : ∀ c ∈ as.map code9, ¬ c < 256 := fun c hc => by
  obtain ⟨a, _, rfl⟩ := List.mem_map.mp hc
  have := (code9_ge a).1
  omega
theorem lo9 {as : List Int} {k : Nat} (hk : k < as.length) : loS (data9 as k) = k % 3 := by
  show lo (data9 as k).cps.toList = _
  rw [data9_list, lo_append, lo_small (l := List.replicate (k % 3) 112) (fun c hc => by rw [(List.mem_replicate.mp hc).2]; decide), if_neg (Nat.lt_irrefl _), lo_append, lo_big (big9 _),
    if_pos (by rw [List.length_map, List.length_drop]; omega)]
  simp
theorem hi9 {as : List Int} {k : Nat} (hk : k < as.length) : hiS (data9 as k) = k % 3 + (as.length - k) := by
  show hi (data9 as k).cps.toList = _
  rw [data9_list, hi_append, lo_small (l := List.replicate (k % 3) 112) (fun c hc => by rw [(List.mem_replicate.mp hc).2]; decide), if_neg (Nat.lt_irrefl _), hi_append, lo_big (big9 _),
    if_pos (by rw [List.length_map, List.length_drop]; omega), hi_big (big9 _), if_pos rfl]
  have hq : (if lo (List.replicate (k % 2) 113) = 0 then hi (List.replicate (k % 2) 113) else 0) = 0 := by
    have h2 : k % 2 < 2 := Nat.mod_lt _ (by decide)
    generalize k % 2 = j at h2
    match j, h2 with
    | 0, _ => rfl
    | 1, _ => rfl
  rw [hq]
  simp
theorem mid9 {as : List Int} {k : Nat} (hk : k < as.length) : mid (data9 as k) (loS (data9 as k)) (hiS (data9 as k)) = row9 (as.drop k) := by
  apply str_ext
  rw [mid_run, runOf_eq]
  show ((data9 as k).cps.toList.drop (loS (data9 as k))).takeWhile _ = _
  rw [lo9 hk, data9_list, row9_list, List.drop_append_of_le_length (by simp)]
  have e1 : (List.replicate (k % 3) 112).drop (k % 3) = [] := by simp
  rw [e1, List.nil_append]
  have hb := big9 (as.drop k)
  generalize (as.drop k).map code9 = l at hb
  have h2 : k % 2 < 2 := Nat.mod_lt _ (by decide)
  induction l with
  | nil =>
    generalize k % 2 = j at h2
    match j, h2 with
    | 0, _ => rfl
    | 1, _ => rfl
  | cons c r ih =>
    rw [List.cons_append, List.takeWhile_cons, if_pos (by simpa using hb c (.head _)), ih fun d hd => hb d (.tail _ hd)]
theorem cut9 {as : List Int} {k : Nat} (hk : k < as.length) : (cut20 (reprText (mid (data9 as k) (loS (data9 as k)) (hiS (data9 as k))))).cps.toList = ([39] ++ flat9 ((as.drop k).take 20) ++ [39]).take 20 := by
  rw [mid9 hk]
  show ((reprText (row9 (as.drop k))).cps.toList.take 20).toArray.toList = _
  rw [List.toList_toArray, repr_row, part9]
end Mine
end
section
open PySem PySem.W PyProof.Rows
open PySem.Builtin PySem.Builtin.Str
open PySem.Builtin.UnicodeEncodeError
namespace Mine

def ueHead (en : Str) : Str := ("'" : Str) ++ en ++ "' codec can't encode character"
def ueText (en ob re : Str) (i j : Int) : Str :=
  match (oneItem ⟨.str en 0, .str ob 0, i, j, .str re 0⟩ ob.length).bind (ob.cps[·]?) with
  | some c => ueHead en ++ (s!" '{shownChar c}'" : Str) ++ ((s!" in position {i}: " : String) ++ re)
  | none => ueHead en ++ "s" ++ ((s!" in position {i}-{j - 1}: " : String) ++ re)

section
variable {prog : Program} {w : World} {A : Around} {E : Value → Shared → Prop} {h : Heap} {g : Array GenState} {d : Drawn} {t : Nat} {os : OsState} {a : Addr}
  {v0 v1 v2 v3 v4 v5 : Value} {en ob re : Str} {i j : Int} {t1 t2 t5 : Tok}

theorem ue_str_entry {Q : Fin → Shared → Prop} (ho : UeAt h a v0 v1 v2 v3 v4 v5 en ob re i j t1 t2 t5) (hj : 0 ≤ j) (hlen : (ueText en ob re i j).length ≤ sizeLine)
    (hq : ∀ k tk, Q (.done (.ret (.str (ueText en ob re i j) k))) ⟨h, g, d, tk, os⟩) :
    wpAny (model prog w) A (Builtin.«UnicodeEncodeError.__str__» ⟨[.ref a], []⟩) Q E ⟨h, g, d, t, os⟩ := by
  unfold Builtin.«UnicodeEncodeError.__str__»
  refine wpAny_bind (wpAny_pure ?_)
  dsimp only
  refine wpAny_bind (wp_members ho ?_)
  rw [if_neg (show ¬ (isUnset (Value.str ob t2) = true) from Bool.false_ne_true)]
  have hm : ∀ {x : Str} {k : Tok} {s : Shared} {Q : Str → Shared → Prop}, (∀ tk, Q x { s with toks := tk }) → wpAny (model prog w) A (memberText (.str x k)) Q E s := fun {x k s Q} hq => by
    unfold memberText
    rw [if_neg (show ¬ (isUnset (Value.str x k) = true) from Bool.false_ne_true)]
    unfold pyStr
    obtain ⟨hp, g, d, tk, os⟩ := s
    repeat (any_goals (first | assumption | wp_step))
    exact hq _
  refine wpAny_bind (hm fun tk2 => ?_)
  refine wpAny_bind (wp_members ho ?_)
  refine wpAny_bind (hm fun tk3 => ?_)
  refine wpAny_bind (wp_members ho ?_)
  refine wpAny_bind (m := asStr? (.str ob t2)) (wpAny_pure (a := some ob) ?_)
  dsimp only
  split
  · rename_i c hc
    have hu : ueText en ob re i j = ueHead en ++ (s!" '{shownChar c}'" : Str) ++ ((s!" in position {i}: " : String) ++ re) := by
      unfold ueText
      rw [show (oneItem ⟨.str en 0, .str ob 0, i, j, .str re 0⟩ ob.length).bind (ob.cps[·]?) = some c from hc]
    rw [hu] at hq hlen
    refine wpAny_bind (wpAny_rule ?_)
    refine wpAny_bind ?_
    unfold positionText
    refine wpAny_pure ?_
    unfold retStr
    exact wpAny_bind (wpAny_mkStr (wpAny_pure (hq _ _)) hlen)
  · rename_i hc
    have hu : ueText en ob re i j = ueHead en ++ "s" ++ ((s!" in position {i}-{j - 1}: " : String) ++ re) := by
      unfold ueText
      rw [show (oneItem ⟨.str en 0, .str ob 0, i, j, .str re 0⟩ ob.length).bind (ob.cps[·]?) = none from hc]
    rw [hu] at hq hlen
    refine wpAny_bind (wpAny_rule ?_)
    refine wpAny_bind ?_
    unfold positionText
    rw [if_neg (by simp; omega)]
    refine wpAny_pure ?_
    unfold retStr
    exact wpAny_bind (wpAny_mkStr (wpAny_pure (hq _ _)) hlen)
theorem slot_ue_str : Slot "UnicodeEncodeError" "__str__" "UnicodeEncodeError.__str__" :=
  .of (owner := "UnicodeEncodeError") (n := "__str__") (by rw [typeLookup_type, builtinLookup_eq_fast]; kernel_rfl) (by decide +kernel) (by decide +kernel) (by decide +kernel)
    (by first | exact .inl (by decide +kernel) | exact .inr (by decide +kernel)) (by rw [isSubtype_type]; kernel_rfl)
theorem entry_ue_str : entryFor table "UnicodeEncodeError.__str__" = some Builtin.«UnicodeEncodeError.__str__» := entryFor_of_tree (by kernel_rfl)
theorem args_ue_str (a : Value) : argsOk "UnicodeEncodeError.__str__" ⟨[a], []⟩ := by unfold argsOk; kernel_rfl

theorem ue_strOf {Q : Value → Shared → Prop} (ho : UeAt h a v0 v1 v2 v3 v4 v5 en ob re i j t1 t2 t5) (hu : A.units < cLine) (hj : 0 ≤ j) (hlen : (ueText en ob re i j).length ≤ sizeLine)
    (hq : ∀ k tk, Q (.str (ueText en ob re i j) k) ⟨h, g, d, tk, os⟩) : wpAny (model prog w) A (PySem.Builtin.Str.strOf (.ref a)) Q E ⟨h, g, d, t, os⟩ := by
  have hT : (⟨h, g, d, t, os⟩ : Shared).TypeIs (.ref a) "UnicodeEncodeError" := ⟨_, ho, rfl⟩
  unfold PySem.Builtin.Str.strOf
  repeat (first | with_reducible refine wpAny_cRoomFor hu ?_ | with_reducible refine wpAny_callSpecial?_slot hT slot_ue_str (wpAny_call_entry slot_ue_str hT entry_ue_str (ue_str_entry ho hj hlen fun k tk => ⟨_, rfl, ?_⟩) (args_ue_str _)) | wp_step)
  exact hq _ _
theorem ue_str {Q : Value → Shared → Prop} (ho : UeAt h a v0 v1 v2 v3 v4 v5 en ob re i j t1 t2 t5) (hu : A.units + 2 < cLine) (hj : 0 ≤ j) (hlen : (ueText en ob re i j).length ≤ sizeLine)
    (hq : ∀ k tk, Q (.str (ueText en ob re i j) k) ⟨h, g, d, tk, os⟩) : wpAny (model prog w) A (call (.type "str") [.ref a]) Q E ⟨h, g, d, t, os⟩ :=
  callType_new F.called_str (by decide) (F.typeCall_str_1 _) (F.newCall_str_1 _) (fun obj => F.args_object_init_2 obj _) F.entry_str_new
    (meets_str_new (S := fun A' R s' => A'.units + 1 < cLine ∧ UeAt s'.heap a v0 v1 v2 v3 v4 v5 en ob re i j t1 t2 t5 ∧ ∀ k tk, R (.ok (.ret (.str (ueText en ob re i j) k))) { s' with toks := tk })
      fun _ _ A' _ _ hq => ue_strOf (A := A'.in1) hq.2.1 hq.1 hj hlen fun k tk => hq.2.2 k tk)
    ⟨(show A.units + 1 + 1 < cLine from hu), ho, fun k tk => ⟨typeIs_str _ _ _, hq k tk⟩⟩
end
end Mine
end
section
open PySem PySem.W PyProof.Rows
open PySem.Builtin PySem.Builtin.Str
open PySem.Builtin.UnicodeEncodeError
namespace Mine

theorem of_list (s : String) : (Str.ofString s).cps.toList = s.toList.map Char.toNat := PyProof.Rows.signs_ofString s
theorem of_app (a b : String) : (Str.ofString (a ++ b)).cps.toList = (Str.ofString a).cps.toList ++ (Str.ofString b).cps.toList := by
  rw [of_list, of_list, of_list, String.toList_append, List.map_append]
theorem shown_fig (a : Int) : (Str.ofString (shownChar (code9 a))).cps.toList = fig9 a := by
  have hh : ∀ wd, code9 a < 16 ^ (wd + 1) → (Str.ofString (hexDigits (code9 a) (wd + 1))).cps.toList = hexL (wd + 1) (code9 a) := fun wd hw => by
    rw [← padded wd _ hw, of_list]
    unfold hexDigits
    simp
  rcases code9_kind a with ⟨k, h1, h2⟩ | ⟨k, h1, h2⟩ | ⟨k, h1, h2⟩
  · unfold shownChar fig9
    rw [if_neg (by omega), if_pos (by omega), of_app, hh 3 (by omega), if_neg (by omega)]
    rfl
  · unfold shownChar fig9
    rw [if_neg (by omega), if_pos (by omega), of_app, hh 3 (by omega), if_neg (by omega)]
    rfl
  · unfold shownChar fig9
    rw [if_neg (by omega), if_neg (by omega), of_app, hh 7 (by omega), if_pos k]
    rfl

def where9 (as : List Int) (k : Nat) : List Nat :=
  if k + 1 = as.length then (Str.ofString "character '").cps.toList ++ fig9 (as.getD k 0) ++ (Str.ofString "' in position ").cps.toList ++ (Str.ofString (toString ((k % 3 : Nat) : Int))).cps.toList
  else (Str.ofString "characters in position ").cps.toList ++ (Str.ofString (toString ((k % 3 : Nat) : Int))).cps.toList ++ (Str.ofString "-").cps.toList ++ (Str.ofString (toString (((k % 3 + (as.length - 1) - k : Nat)) : Int))).cps.toList
theorem tell9 {as : List Int} {k : Nat} (hk : k < as.length) (re : Str) :
    (ueText latinS (data9 as k) re (loS (data9 as k)) (hiS (data9 as k))).cps.toList = (Str.ofString "'latin-1' codec can't encode ").cps.toList ++ where9 as k ++ (Str.ofString ": ").cps.toList ++ re.cps.toList := by
  have hlen : (data9 as k).length = k % 3 + (as.length - k) + k % 2 := by
    have : (data9 as k).cps.toList.length = (data9 as k).length := Array.length_toList
    rw [← this, data9_list]
    simp; omega
  have hget : (data9 as k).cps[k % 3]? = some (code9 (as.getD k 0)) := by
    rw [← Array.getElem?_toList, data9_list, List.getElem?_append_right (by simp)]
    have : k % 3 - (List.replicate (k % 3) 112).length = 0 := by simp
    rw [this, List.drop_eq_getElem_cons hk, List.map_cons, List.cons_append, List.getElem?_cons_zero]
    simp [hk]
  have hone : oneItem ⟨.str latinS 0, .str (data9 as k) 0, (loS (data9 as k) : Int), (hiS (data9 as k) : Int), .str re 0⟩ (data9 as k).length = if k + 1 = as.length then some (k % 3) else none := by
    unfold oneItem
    rw [lo9 hk, hi9 hk, hlen]
    dsimp only
    by_cases h : k + 1 = as.length
    · rw [if_pos h, if_pos (by simp; omega)]; simp; omega
    · rw [if_neg h, if_neg (by simp; omega)]
  unfold ueText
  rw [hone]
  unfold where9
  by_cases h : k + 1 = as.length
  · rw [if_pos h, if_pos h, Option.bind_some, hget, lo9 hk]
    dsimp only
    have e1 : (ueHead latinS).cps.toList = (Str.ofString "'latin-1' codec can't encode character").cps.toList := by decide +kernel
    rw [app_list, app_list, app_list, e1]
    have e2 : (Str.ofString (s!" '{shownChar (code9 (as.getD k 0))}'")).cps.toList = (Str.ofString " '").cps.toList ++ fig9 (as.getD k 0) ++ (Str.ofString "'").cps.toList := by
      rw [show (s!" '{shownChar (code9 (as.getD k 0))}'" : String) = " '" ++ shownChar (code9 (as.getD k 0)) ++ "'" from rfl, of_app, of_app, shown_fig]
    have e3 : (Str.ofString (s!" in position {((k % 3 : Nat) : Int)}: ")).cps.toList = (Str.ofString " in position ").cps.toList ++ (Str.ofString (toString ((k % 3 : Nat) : Int))).cps.toList ++ (Str.ofString ": ").cps.toList := by
      rw [show (s!" in position {((k % 3 : Nat) : Int)}: " : String) = " in position " ++ toString ((k % 3 : Nat) : Int) ++ ": " from rfl, of_app, of_app]
    rw [e2, e3]
    have e4 : (Str.ofString "'latin-1' codec can't encode character").cps.toList ++ (Str.ofString " '").cps.toList = (Str.ofString "'latin-1' codec can't encode ").cps.toList ++ (Str.ofString "character '").cps.toList := by decide +kernel
    have e5 : (Str.ofString "'").cps.toList ++ (Str.ofString " in position ").cps.toList = (Str.ofString "' in position ").cps.toList := by decide +kernel
    rw [← e5]
    simp only [List.append_assoc]
    rw [← List.append_assoc, e4]
    simp only [List.append_assoc]
  · rw [if_neg h, if_neg h, Option.bind_none]
    dsimp only
    have e1 : (ueHead latinS ++ "s" : Str).cps.toList = (Str.ofString "'latin-1' codec can't encode characters").cps.toList := by decide +kernel
    rw [app_list, e1, app_list, lo9 hk, hi9 hk]
    have ej : ((k % 3 + (as.length - k) : Nat) : Int) - 1 = ((k % 3 + (as.length - 1) - k : Nat) : Int) := by omega
    rw [ej]
    have e3 : (Str.ofString (s!" in position {((k % 3 : Nat) : Int)}-{((k % 3 + (as.length - 1) - k : Nat) : Int)}: ")).cps.toList = (Str.ofString " in position ").cps.toList ++ (Str.ofString (toString ((k % 3 : Nat) : Int))).cps.toList ++ (Str.ofString "-").cps.toList ++ (Str.ofString (toString ((k % 3 + (as.length - 1) - k : Nat) : Int))).cps.toList ++ (Str.ofString ": ").cps.toList := by
      rw [show (s!" in position {((k % 3 : Nat) : Int)}-{((k % 3 + (as.length - 1) - k : Nat) : Int)}: " : String) = " in position " ++ toString ((k % 3 : Nat) : Int) ++ "-" ++ toString ((k % 3 + (as.length - 1) - k : Nat) : Int) ++ ": " from rfl, of_app, of_app, of_app, of_app]
    rw [e3]
    have e4 : (Str.ofString "'latin-1' codec can't encode characters").cps.toList ++ (Str.ofString " in position ").cps.toList = (Str.ofString "'latin-1' codec can't encode ").cps.toList ++ (Str.ofString "characters in position ").cps.toList := by decide +kernel
    simp only [List.append_assoc]
    rw [← List.append_assoc, e4]
    simp only [List.append_assoc]
end Mine
end
section
open PySem PySem.W PyProof.Rows
open PySem.Builtin PySem.Builtin.Str
namespace Mine

abbrev encodeS : Str := Str.ofString ".encode('utf-8') if you want to send it encoded in UTF-8."
def nameOf (named : Nat) : Str := if named = 1 then Str.ofString "h1 line" else Str.ofString "data"
def titleOf9 (named : Nat) : Str := if named = 1 then Str.ofString "H1 Line" else Str.ofString "Data"
def part9S (as : List Int) (k : Nat) : Str := ⟨(([39] ++ flat9 ((as.drop k).take 20) ++ [39]).take 20).toArray⟩
def words9 (as : List Int) (k named : Nat) : Str := (((((titleOf9 named ++ Str.ofString " (") ++ part9S as k) ++ Str.ofString ") is not valid Latin-1. Use ") ++ nameOf named) ++ encodeS)
theorem title9 (named : Nat) : Txt.title (nameOf named) = titleOf9 named := by
  unfold nameOf titleOf9
  split <;> decide +kernel
theorem words9_eq {as : List Int} {k : Nat} (named : Nat) (hk : k < as.length) : encWords (nameOf named) (data9 as k) = words9 as k named := by
  have hc := cut9 hk
  apply str_ext
  unfold encWords words9
  rw [title9]
  simp only [app_list, List.append_assoc]
  rw [hc]
  have e0 : Str.empty.cps.toList = [] := rfl
  have e1 : (part9S as k).cps.toList = ([39] ++ flat9 ((as.drop k).take 20) ++ [39]).take 20 := by unfold part9S; exact List.toList_toArray
  rw [e0, e1, List.nil_append]
end Mine
end
section
open PySem PySem.W PyProof.Rows
open PySem.Builtin PySem.Builtin.Str
namespace Mine

def lawBody : List Stmt := bodyOf (stmt9 4)
def lawScope : Scope := scopeOf (stmt9 4)
abbrev envL (L f : Addr) (cd : Value) : Env := envOf (Str.ofString "law") lawScope L f cd
def valueOf : Stmt → PySem.Expr
  | .Assign _ v _ => v
  | _ => .Constant .none 0 ⟨0, 0, 0, 0⟩
def handlerB : Stmt → List Stmt
  | .Try _ [.ExceptHandler _ _ b _] _ _ _ => b
  | _ => []

structure Ctx (B : Heap) (L : Addr) : Prop where
  bl : B.get? L = none
  lim : B.NoLimit
  names : Names B
  fn : ∃ f, EncFn B f ∧ GlobalIs B "_encode" (.ref f)
  hex : ∃ f, FnIs B f (Str.ofString "_law_hex") (stmt9 3) ∧ GlobalIs B "_law_hex" (.ref f)
  gx : GlobalIs B "UnicodeEncodeError" (.type "UnicodeEncodeError")
  gchr : GlobalIs B "chr" (.builtin "chr")
  glen : GlobalIs B "len" (.builtin "len")
  grange : GlobalIs B "range" (.type "range")
  gstr : GlobalIs B "str" (.type "str")
  gtype : GlobalIs B "type" (.type "type")
  gbytes : GlobalIs B "bytes" (.type "bytes")

section
variable {prog : Program} {w : World} {A : Around} {E : Value → Shared → Prop} {s : Shared} {B h : Heap} {f fe L : Addr} {g : Array GenState} {d : Drawn} {tk : Nat} {os : OsState} {cd : Value} {m : Str → Option Value} {x n : Str} {tx tn : Tok}

theorem law_ff (F : Fr B L h m) : h.FunFrames noHeap [envL L f cd] :=
  Heap.FunFrames.cons (by show lawScope.kind ≠ .module; decide) rfl F.ns (noHeap_get L) trivial
theorem law_keep {h' : Heap} (hbl : B.get? L = none) (F : Fr B L h m) (K : Tch [] [L] h h') : Fr B L h' m ∧ Kp [L] h h' :=
  ⟨⟨K.ns (by simp) F.ns, fun b o e => K.keep b o (F.keep b o e) (by simp) (fun q => by rw [List.mem_singleton.mp q] at e; rw [hbl] at e; cases e), F.above⟩, .of_tch K⟩
theorem fresh_B {p : Addr} (F : Fr B L h m) (e : h.get? p = none) : B.get? p = none := by
  cases q : B.get? p with
  | none => rfl
  | some o => have := F.keep _ _ q; rw [e] at this; cases this

abbrev OkTo (B : Heap) (L : Addr) (h : Heap) (m : Str → Option Value) (g : Array GenState) (d : Drawn) (os : OsState) (x : Str) (R : Result → Shared → Prop) : Prop :=
  loS x = x.cps.toList.length → ∀ h' tk k, Fr B L h' m → Kp [L] h h' → R (.ok (.ret (.bytes (octs x) k))) ⟨h', g, d, tk, os⟩
abbrev BadTo (B : Heap) (L : Addr) (h : Heap) (m : Str → Option Value) (g : Array GenState) (d : Drawn) (os : OsState) (n x : Str) (R : Result → Shared → Prop) : Prop :=
  loS x < x.cps.toList.length → ∀ h' e t T cx t1 t2 t3 t4 t5 tk, Fr B L h' m → Kp [L] h h' → h.get? e = none → h.get? T = none →
    UeAt h' e (.ref t) (.ref T) cx .none (.bool true) .none latinS x (encWords n x) (loS x) (hiS x) t1 t2 t5 → T ≠ e → TB h' T .none →
    h'.get? t = some { cls := .type "tuple", data := .seq (ueArgs latinS x (encWords n x) (loS x) (hiS x) t1 t2 t3 t4 t5).toArray } → R (.error (.ref e)) ⟨h', g, d, tk, os⟩
theorem call_enc2 {R : Result → Shared → Prop} (C : Ctx B L) (hf : EncFn B fe) (hfr : A.frames = some [envL L f cd]) (hh : A.handled = none) (hroom : A.depth < recursionLimit) (F : Fr B L h m) (hx : Fine x) (hnl : n.length ≤ 100000)
    (hok : OkTo B L h m g d os x R) (hbad : BadTo B L h m g d os n x R) : codeAny (model prog w) A (.call (.ref fe) ⟨[.str x tx, .str n tn], []⟩) R ⟨h, g, d, tk, os⟩ := by
  have hlt : L < h.objs.size := F.ns.lt
  refine Mine.enc_call2 (outer := [envL L f cd]) hf hfr hh hroom F.keep (Nat.le_of_lt (Nat.lt_of_le_of_lt F.above hlt)) (fun a ha => by rw [List.mem_singleton.mp ha]; exact C.bl) (law_ff F) C.names C.lim hx hnl (fun hlo h' tk k K => ?_)
    fun hlo h' e t T cx t1 t2 t3 t4 t5 tk K ne nt nT ue hT tb tu => ?_
  · exact hok hlo h' tk k (law_keep C.bl F K).1 (law_keep C.bl F K).2
  · exact hbad hlo h' e t T cx t1 t2 t3 t4 t5 tk (law_keep C.bl F K).1 (law_keep C.bl F K).2 ne nT ue hT tb tu
theorem call_enc1 {R : Result → Shared → Prop} (C : Ctx B L) (hf : EncFn B fe) (hfr : A.frames = some [envL L f cd]) (hh : A.handled = none) (hroom : A.depth < recursionLimit) (F : Fr B L h m) (hx : Fine x)
    (hok : OkTo B L h m g d os x R) (hbad : BadTo B L h m g d os (Str.ofString "data") x R) : codeAny (model prog w) A (.call (.ref fe) ⟨[.str x tx], []⟩) R ⟨h, g, d, tk, os⟩ := by
  have hlt : L < h.objs.size := F.ns.lt
  refine Mine.enc_call1 (outer := [envL L f cd]) hf hfr hh hroom F.keep (Nat.le_of_lt (Nat.lt_of_le_of_lt F.above hlt)) (fun a ha => by rw [List.mem_singleton.mp ha]; exact C.bl) (law_ff F) C.names C.lim hx (fun hlo h' tk k K => ?_)
    fun hlo h' e t T cx t1 t2 t3 t4 t5 tk K ne nt nT ue hT tb tu => ?_
  · exact hok hlo h' tk k (law_keep C.bl F K).1 (law_keep C.bl F K).2
  · exact hbad hlo h' e t T cx t1 t2 t3 t4 t5 tk (law_keep C.bl F K).1 (law_keep C.bl F K).2 ne nT ue hT tb tu

theorem type_ev {v : Value} {T : String} {np ap pos : Pos} {n : Str} {Q : Value → Shared → Prop} (C : Ctx B L) (F : Fr B L s.heap m) (ms : m n = some v) (hv : s.TypeIs v T) (hT : (Value.type T == Value.type "builtin_function_or_method") = false)
    (hq : Q (.type T) s) (k1 : (envL L f cd).kindOf n = some .local := by rfl) (d1 : (n == ("__debug__" : Str)) = false := by decide) :
    wpAny (model prog w) A (eval (.Call (.Name "type" np) [.Name n ap] [] pos) (envL L f cd)) Q E s :=
  Call_ (ld_global C.gtype F.keep (PyProof.Rows.callWith_type1 (spliced_more (wpAny_Name (wpAny_loadName_local rfl k1 F.ns ms (spliced_none (call_type_of hv hT hq))) d1))))
theorem ne5 {p q : Addr} {a x c : Str} {i j : Int} {a1 a2 a3 a4 a5 b1 b2 b3 b4 b5 : Tok} {Q : Value → Shared → Prop}
    (hp : s.heap.get? p = some { cls := .type "tuple", data := .seq #[.str a a1, .str x a2, .int i a3, .int j a4, .str c a5] })
    (hq : s.heap.get? q = some { cls := .type "tuple", data := .seq #[.str a b1, .str x b2, .int i b3, .int j b4, .str c b5] }) (hu : A.units < cLine) (h : Q (.bool false) s) :
    wpAny (model prog w) A (compareOp .NotEq (.ref p) (.ref q)) Q E s := by
  refine (?_ : SeqAt.RcNeAt A s (.ref p) (.ref q) false) _ _ _ _ h
  refine SeqAt.RcNeAt.tuples (e := fun _ => true) ⟨_, hp, rfl, _, rfl⟩ ⟨_, hq, rfl, _, rfl⟩ hu fun k h1 h2 => ?_
  match k, h1, h2 with
  | 0, _, _ => have := SeqAt.EqAt.str_str (A := A.in1) (s := s) a a1 a b1; simpa using this
  | 1, _, _ => have := SeqAt.EqAt.str_str (A := A.in1) (s := s) x a2 x b2; simpa using this
  | 2, _, _ => have := SeqAt.EqAt.int_int (A := A.in1) (s := s) i a3 i b3; simpa using this
  | 3, _, _ => have := SeqAt.EqAt.int_int (A := A.in1) (s := s) j a4 j b4; simpa using this
  | 4, _, _ => have := SeqAt.EqAt.str_str (A := A.in1) (s := s) c a5 c b5; simpa using this
end
end Mine
end
section
open PySem PySem.W PyProof.Rows
open PySem.Builtin PySem.Builtin.Str
namespace Mine

def turnB : List Stmt := forBodyOf (nth lawBody 6)
def checkB : List Stmt := handlerB (nth turnB 9)

section
variable {prog : Program} {w : World} {A : Around} {E : Value → Shared → Prop} {s : Shared} {B h : Heap} {f L : Addr} {g : Array GenState} {d : Drawn} {tk : Nat} {os : OsState} {cd : Value} {m : Str → Option Value}

theorem check9 {e t r : Addr} {v1 v2 v3 v4 v5 : Value} {x c wh : Str} {i j : Int} {t1 t2 t3 t4 t5 b1 b2 b3 b4 b5 kw kc : Tok} (C : Ctx B L) (hu : A.units + 64 < cLine) (F : Fr B L h m) (me : m "err" = some (.ref e)) (mr : m "args" = some (.ref r))
    (mw : m "where" = some (.str wh kw)) (mc : m "words" = some (.str c kc))
    (ue' : UeAt h e (.ref t) v1 v2 v3 v4 v5 latinS x c i j t1 t2 t5) (ht : h.get? t = some { cls := .type "tuple", data := .seq (ueArgs latinS x c i j t1 t2 t3 t4 t5).toArray })
    (hr : h.get? r = some { cls := .type "tuple", data := .seq #[.str latinS b1, .str x b2, .int i b3, .int j b4, .str c b5] })
    (hj : 0 ≤ j) (hl : wh.length + c.length ≤ 100000) (htell : ueText latinS x c i j = ((Str.ofString "'latin-1' codec can't encode " ++ wh) ++ Str.ofString ": ") ++ c) :
    wpAny (model prog w) A (execs checkB (envL L f cd)) (fun fl s' => ∃ h2 m2 tk2, s' = ⟨h2, g, d, tk2, os⟩ ∧ Fr B L h2 m2 ∧ Kp [L] h h2 ∧ fl = .next ∧ ∀ y : Str, m2 y = m y) E ⟨h, g, d, tk, os⟩ := by
  have hsl : sizeLine = 16777216 := rfl
  have z1 : (Str.ofString "'latin-1' codec can't encode ").length = 29 := by decide +kernel
  have z2 : (Str.ofString ": ").length = 2 := by decide +kernel
  refine wpAny_execs_cons (wpAny_If (wpAny_isTrue_BoolOp (wpAny_allTrue_Or_cons (wpAny_isTrue_Compare1 (type_ev C F me (T := "UnicodeEncodeError") ⟨_, ue', rfl⟩ (by decide) (ld_global C.gx F.keep (isnot_type_same (wpAny_truthy_bool ?_))))))))
  rw [if_neg (by decide)]
  refine wpAny_allTrue_Or_cons (wpAny_isTrue_Compare1 (Attribute_name (ld F me (at_args ue' (ld F mr (ne5 ht hr (by omega) (wpAny_truthy_bool ?_)))))))
  rw [if_neg (by decide)]
  refine wpAny_allTrue_Or_nil ?_
  rw [if_neg (by decide)]
  refine wpAny_execs_nil ?_
  refine wpAny_execs_cons (wpAny_If (wpAny_isTrue_Compare1 (Call_ (ld_global C.gstr F.keep (PyProof.Rows.callWith_type1 (spliced_more (ld F me (spliced_none (ue_str ue' (by omega) hj ?_ fun k tk => ?_)))))))))
  · rw [htell]; simp only [Str.length_append]; omega
  refine wpAny_BinOp (wpAny_BinOp (wpAny_BinOp (Calls.Constant_str (ld F mw (PyProof.Rows.add_str (hsz := by omega) fun ka tka => ?_)))))
  refine Calls.Constant_str (PyProof.Rows.add_str (hsz := by simp only [Str.length_append]; omega) fun kb tkb => ?_)
  refine ld F mc (PyProof.Rows.add_str (hsz := by simp only [Str.length_append]; omega) fun kd tkd => ?_)
  refine PyProof.Rows.ne_str (wpAny_truthy_bool ?_)
  rw [htell, if_neg (by simp)]
  exact wpAny_execs_nil (wpAny_execs_nil ⟨h, m, _, rfl, F, Kp.refl _ _, rfl, fun _ => rfl⟩)
end
end Mine
end
section
open PySem PySem.W PyProof.Rows
open PySem.Builtin PySem.Builtin.Str
namespace Mine

def firstB : List Stmt := forBodyOf (nth lawBody 3)
abbrev listObj (vs : List Value) (n : Nat) : Obj := { cls := .type "list", data := .seq vs.toArray n }
structure Accs (h : Heap) (Dc Df Ds : Addr) (as : List Int) : Prop where
  ex : ∃ (vc vf vs : List Value) (nc nf ns : Nat), h.get? Dc = some (listObj vc nc) ∧ IntsAre vc (as.map fun a => (code9 a : Int)) ∧ h.get? Df = some (listObj vf nf) ∧ StrsAre vf (as.map fun a => (⟨(fig9 a).toArray⟩ : Str)) ∧
    h.get? Ds = some (listObj vs ns) ∧ StrsAre vs (as.map fun a => (⟨(sh9 a).toArray⟩ : Str))

theorem ints_snoc {n : Int} {t : Tok} : ∀ {vs : List Value} {ns : List Int}, IntsAre vs ns → IntsAre (vs ++ [.int n t]) (ns ++ [n])
  | _, _, .nil => .cons _ _ .nil
  | _, _, .cons a b r => .cons a b (ints_snoc r)
theorem strs_snoc {y : Str} {t : Tok} : ∀ {vs : List Value} {ns : List Str}, StrsAre vs ns → StrsAre (vs ++ [.str y t]) (ns ++ [y])
  | _, _, .nil => .cons _ _ .nil
  | _, _, .cons a b r => .cons a b (strs_snoc r)
section
variable {prog : Program} {w : World} {A : Around} {E : Value → Shared → Prop} {B h : Heap} {f L Dc Df Ds : Addr} {g : Array GenState} {d : Drawn} {tk : Nat} {os : OsState} {cd : Value} {m : Str → Option Value}

def argOf : Stmt → PySem.Expr
  | .Expr (.Call _ [e] _ _) _ => e
  | _ => .Constant .none 0 ⟨0, 0, 0, 0⟩
theorem fig_ev {a : Int} {kk kc : Tok} {Q : Value → Shared → Prop} (C : Ctx B L) (hh : A.handled = none) (hroom : A.depth < recursionLimit) (F : Fr B L h m) (mk : m "kind" = some (.int (a.fmod 3) kk)) (mc : m "code" = some (.int (code9 a : Int) kc))
    (hq : ∀ h' y k tk, h.StaysIn h' → y.cps.toList = fig9 a → y.length ≤ 10 → Q (.str y k) ⟨h', g, d, tk, os⟩) :
    wpAny (model prog w) A (eval (argOf (nth firstB 3)) (envL L f cd)) Q E ⟨h, g, d, tk, os⟩ := by
  have hsl : sizeLine = 16777216 := rfl
  obtain ⟨fH, hH, gH⟩ := C.hex
  obtain ⟨oH, docH, pmH, cdH, ctH, anH, hoH, hdH, _⟩ := id hH
  have z1 : (Str.ofString "\\U").length = 2 := by decide +kernel
  have z2 : (Str.ofString "\\u").length = 2 := by decide +kernel
  have zh : ∀ wd, (hexText wd (code9 a)).length = wd := fun wd => by
    show ((List.range wd).map _).toArray.size = wd
    simp
  have hfig : ∀ (wd : Nat) (p : Str), (p ++ hexText wd (code9 a)).cps.toList = p.cps.toList ++ hexL wd (code9 a) := fun wd p => by rw [app_list, hexText_list]
  refine IfExp_ (wpAny_isTrue_Compare1 (ld F mk (wpAny_Constant_int (eq_int (wpAny_truthy_bool ?_)))))
  by_cases k2 : a.fmod 3 = 2
  · rw [if_pos (by simpa using k2)]
    refine wpAny_BinOp (Calls.Constant_str (Call_ (ld_global gH F.keep (callWith_def hdH (spliced_more (ld F mc (spliced_more (wpAny_Constant_int (spliced_none ⟨F.keep _ _ hoH, wpAny_call ?_⟩)))))))))
    refine hex_call (c := code9 a) (wd := 8) hH hh hroom F.keep C.lim C.grange (.inr rfl) fun h1 tk1 k1 K1 => ?_
    refine PyProof.Rows.add_str (hsz := by have := zh 8; omega) fun k3 tk3 => hq _ _ _ _ K1 ?_ (by rw [Str.length_append, zh]; omega)
    rw [hfig]; unfold fig9; rw [if_pos k2]; rfl
  · rw [if_neg (by simpa using k2)]
    refine wpAny_BinOp (Calls.Constant_str (Call_ (ld_global gH F.keep (callWith_def hdH (spliced_more (ld F mc (spliced_more (wpAny_Constant_int (spliced_none ⟨F.keep _ _ hoH, wpAny_call ?_⟩)))))))))
    refine hex_call (c := code9 a) (wd := 4) hH hh hroom F.keep C.lim C.grange (.inl rfl) fun h1 tk1 k1 K1 => ?_
    refine PyProof.Rows.add_str (hsz := by have := zh 4; omega) fun k3 tk3 => hq _ _ _ _ K1 ?_ (by rw [Str.length_append, zh]; omega)
    rw [hfig]; unfold fig9; rw [if_neg k2]; rfl

theorem sh_ev {a : Int} {kk kc ky : Tok} {D : Addr} {items : Array Value} {n : Nat} {y : Str} {Q : Value → Shared → Prop} (C : Ctx B L) (F : Fr B L h m) (mk : m "kind" = some (.int (a.fmod 3) kk)) (mc : m "code" = some (.int (code9 a : Int) kc))
    (mf : m "figures" = some (.ref D)) (hD : h.get? D = some { cls := .type "list", data := .seq (items.push (.str y ky)) n }) (hsz : items.size ≤ 100) (hy : y.cps.toList = fig9 a)
    (hq : ∀ y k tk, y.cps.toList = sh9 a → Q (.str y k) ⟨h, g, d, tk, os⟩) :
    wpAny (model prog w) A (eval (argOf (nth firstB 4)) (envL L f cd)) Q E ⟨h, g, d, tk, os⟩ := by
  have hcl := (code9_ge a).2
  refine IfExp_ (wpAny_isTrue_Compare1 (ld F mk (wpAny_Constant_int (eq_int (wpAny_truthy_bool ?_)))))
  by_cases k0 : a.fmod 3 = 0
  · rw [if_pos (by simpa using k0)]
    refine Call_ (ld_global C.gchr F.keep (PyProof.Rows.callWith_builtin1 (spliced_more (ld F mc (spliced_none (chr_of_range (by omega) (by omega) ?_))))))
    refine hq _ _ _ ?_
    unfold sh9; rw [if_pos k0]; rfl
  · rw [if_neg (by simpa using k0)]
    refine Subscript_ (ld F mf (wpAny_UnaryOp (wpAny_Constant_int (PyProof.Rows.neg_int ?_))))
    have hl : h.IsList D (items.push (.str y ky)) := ⟨_, hD, rfl, _, rfl⟩
    refine tail_any (T := "list") ⟨_, hD, rfl⟩ slot_list_getitem.lookup (wpAny_getItem_list_neg hl (by decide) (by rw [Array.size_push]; omega) (by decide) (x := .str y ky) ?_ (hq _ _ _ ?_)) (by with_unfolding_all rfl)
    · rw [Array.size_push]
      have : (-1 + ((items.size + 1 : Nat) : Int)).toNat = items.size := by omega
      rw [this]; simp
    · unfold sh9; rw [if_neg k0]; exact hy

theorem first_turn {as : List Int} {a : Int} {ka : Tok} (C : Ctx B L) (hfr : A.frames = some [envL L f cd]) (hh : A.handled = none) (hroom : A.depth < recursionLimit)
    (F : Fr B L h m) (hd1 : Dc ≠ Df) (hd2 : Dc ≠ Ds) (hd3 : Df ≠ Ds) (hB : B.get? Dc = none ∧ B.get? Df = none ∧ B.get? Ds = none) (Ac : Accs h Dc Df Ds as) (hlen : as.length ≤ 100)
    (mx : m "x" = some (.int a ka)) (mc : m "codes" = some (.ref Dc)) (mf : m "figures" = some (.ref Df)) (ms : m "shown" = some (.ref Ds)) :
    wpAny (model prog w) A (execs firstB (envL L f cd)) (fun fl s3 => fl = .next ∧ ∃ m3 h3 tk3, s3 = ⟨h3, g, d, tk3, os⟩ ∧ Fr B L h3 m3 ∧ Kp [L, Dc, Df, Ds] h h3 ∧ Accs h3 Dc Df Ds (as ++ [a]) ∧
      m3 "codes" = some (.ref Dc) ∧ m3 "figures" = some (.ref Df) ∧ m3 "shown" = some (.ref Ds) ∧ m3 "script" = m "script") E ⟨h, g, d, tk, os⟩ := by
  have hsl : sizeLine = 16777216 := rfl
  have h0 : 0 ≤ a.fmod 3 := Int.fmod_nonneg_of_pos _ (by decide)
  have h1 : a.fmod 3 < 3 := Int.fmod_lt_of_pos _ (by decide)
  refine wpAny_execs_cons (Assign_Tuple_swapped (names := [Str.ofString "kind", Str.ofString "more"]) (Tuple_ ?_) (hw := by rfl))
  refine spliced_more (wpAny_BinOp (ld F mx (wpAny_Constant_int (mod_int' (by decide) ?_))))
  refine spliced_more (wpAny_BinOp (ld F mx (wpAny_Constant_int (floordiv_int (by decide) (spliced_none (wpAny_newTuple ?_ (by show 2 ≤ sizeLine; omega)))))))
  dsimp only
  generalize hto : ({ cls := .type "tuple", data := .seq _ } : Obj) = tobj
  have hp5 := Heap.get?_push_size h (o := tobj) (by rw [← hto]; rfl)
  rw [← hto] at hp5
  have K5 : h.StaysIn (h.push tobj) := fun b o e => Heap.get?_push_of_some _ e
  refine unpk hh (items := #[_, _]) (by rw [← hto]; exact hp5) rfl fun h6 K6 => ?_
  have F6 : Fr B L h6 m := ⟨(F.push tobj).ns.keeps K6, fun b o e => K6 b o ((F.push tobj).keep b o e), F.above⟩
  refine assignInOrder_cons (bindName_ (storeN F6 (fun h7 F7 K7 => ?_)))
  refine assignInOrder_cons (bindName_ (storeN F7 (fun h8 F8 K8 => assignInOrder_nil ?_)))
  have K08 : Kp [L] h h8 := ((Kp.of_stays K5).trans (.of_stays K6)).trans (K7.trans K8)
  refine wpAny_execs_cons (wpAny_Assign_Name (Subscript_ (List_ ?_)))
  refine spliced_more (wpAny_BinOp (wpAny_Constant_int (wpAny_BinOp (ld F8 (un ue) (wpAny_Constant_int (mod_int' (by decide) (add_int ?_)))))))
  refine spliced_more (wpAny_BinOp (wpAny_Constant_int (wpAny_BinOp (ld F8 (un ue) (wpAny_Constant_int (mod_int' (by decide) (add_int ?_)))))))
  refine spliced_more (wpAny_BinOp (wpAny_Constant_int (wpAny_BinOp (ld F8 (un ue) (wpAny_Constant_int (mod_int' (by decide) (add_int (spliced_none (wp_newList (by show 3 ≤ sizeLine; omega) ?_)))))))))
  dsimp only
  have hit : ∀ t1 t2 t3 : Tok, ∃ u, ([Value.int (945 + (a.fdiv 3).fmod 25) t1, Value.int (57344 + (a.fdiv 3).fmod 6400) t2, Value.int (983040 + (a.fdiv 3).fmod 65534) t3].toArray)[(a.fmod 3).toNat]? = some (.int (code9 a : Int) u) := fun t1 t2 t3 => by
    have m1 : 0 ≤ (a.fdiv 3).fmod 25 := Int.fmod_nonneg_of_pos _ (by decide)
    have m3 : 0 ≤ (a.fdiv 3).fmod 6400 := Int.fmod_nonneg_of_pos _ (by decide)
    have m5 : 0 ≤ (a.fdiv 3).fmod 65534 := Int.fmod_nonneg_of_pos _ (by decide)
    unfold code9 more9
    by_cases k0 : a.fmod 3 = 0
    · rw [if_pos k0, k0, Int.toNat_of_nonneg (by omega)]; exact ⟨t1, rfl⟩
    · by_cases k1 : a.fmod 3 = 1
      · rw [if_neg k0, if_pos k1, k1, Int.toNat_of_nonneg (by omega)]; exact ⟨t2, rfl⟩
      · have k2 : a.fmod 3 = 2 := by omega
        rw [if_neg k0, if_neg k1, k2, Int.toNat_of_nonneg (by omega)]; exact ⟨t3, rfl⟩
  refine ld (F8.push _) ue (sub_list_int ⟨_, Heap.get?_push_size _ rfl, rfl, _, rfl⟩ (by omega) (by omega) (hit _ _ _) (fun u => ?_))
  generalize hlo : ({ cls := .type "list", data := .seq _ } : Obj) = lobj
  refine storeN (F8.push lobj) (fun h9 F9 K9 => ?_)
  have K89 : Kp [L] h8 h9 := (Kp.of_stays fun b o e => Heap.get?_push_of_some _ e).trans K9
  have K09 := K08.trans K89
  obtain ⟨vc, vf, vs, nc, nf, ns, hc, ic, hf, jf, hs, js⟩ := Ac.ex
  have hc9 := K09.get F.ns hc (fun _ _ q => by cases q)
  have hf9 := K09.get F.ns hf (fun _ _ q => by cases q)
  have hs9 := K09.get F.ns hs (fun _ _ q => by cases q)
  have lc : vc.length ≤ 100 := by rw [ic.length, List.length_map]; exact hlen
  have gk : ∀ {v1 v2 v3 : Value}, (if Str.ofString "codes" = Str.ofString "code" then some v1 else if Str.ofString "codes" = Str.ofString "kind" then some v2 else if Str.ofString "codes" = Str.ofString "more" then some v3 else m "codes") = some (.ref Dc) := un (un (un mc))
  refine wpAny_execs_cons (wpAny_Expr (MethodCall_ (ld F9 gk (Calls.getMethod_list_append hc9 rfl rfl (callWith_method1 (spliced_more (ld F9 ue (spliced_none ?_))))))))
  refine append_at hc9 (fun h10 hs10 hc10 => ?_) (by show vc.toArray.size ≤ sizeLine; rw [List.size_toArray]; omega)
  dsimp only
  have lf : vf.length ≤ 100 := by have e := jf.length; rw [List.length_map] at e; omega
  have nDc : Dc ≠ L := not_frame F.ns hc (fun _ _ q => by cases q)
  have nDf : Df ≠ L := not_frame F.ns hf (fun _ _ q => by cases q)
  have nDs : Ds ≠ L := not_frame F.ns hs (fun _ _ q => by cases q)
  have same_fr : ∀ {D : Addr} {h1 h2 : Heap} {m1 : Str → Option Value}, D ≠ L → B.get? D = none → Heap.SameBut D h1 h2 → Fr B L h1 m1 → Fr B L h2 m1 := fun {D h1 h2 m1} hD hBD hs F1 =>
    have K : Kp [D] h1 h2 := Kp.of_same hs (List.mem_singleton.mpr rfl)
    K.fr (fun p hp => by rw [List.mem_singleton.mp hp]; exact hBD) F1 (K.ns (by simpa using hD.symm) F1.ns)
  have F10 := same_fr nDc hB.1 hs10 F9
  have hf10 := (hs10.2 Df hd1.symm).trans hf9
  have hs10' := (hs10.2 Ds hd2.symm).trans hs9
  have gf : ∀ {v1 v2 v3 : Value}, (if Str.ofString "figures" = Str.ofString "code" then some v1 else if Str.ofString "figures" = Str.ofString "kind" then some v2 else if Str.ofString "figures" = Str.ofString "more" then some v3 else m "figures") = some (.ref Df) := un (un (un mf))
  refine wpAny_execs_cons (wpAny_Expr (MethodCall_ (ld F10 gf (Calls.getMethod_list_append hf10 rfl rfl (callWith_method1 (spliced_more (fig_ev (a := a) C hh hroom F10 (un ue) ue fun h11 y ky tk11 K11 hy hyl => spliced_none ?_)))))))
  refine append_at (K11 _ _ hf10) (fun h12 hs12 hf12 => ?_) (by show vf.toArray.size ≤ sizeLine; rw [List.size_toArray]; omega)
  dsimp only
  have F11 : Fr B L h11 _ := ⟨F10.ns.keeps K11, fun b o e => K11 b o (F10.keep b o e), F10.above⟩
  have F12 := same_fr nDf hB.2.1 hs12 F11
  have hc12 := (hs12.2 Dc hd1).trans (K11 _ _ hc10)
  have hs12' := (hs12.2 Ds hd3.symm).trans (K11 _ _ hs10')
  have lv : vs.length ≤ 100 := by have e := js.length; rw [List.length_map] at e; omega
  have gs : ∀ {v1 v2 v3 : Value}, (if Str.ofString "shown" = Str.ofString "code" then some v1 else if Str.ofString "shown" = Str.ofString "kind" then some v2 else if Str.ofString "shown" = Str.ofString "more" then some v3 else m "shown") = some (.ref Ds) := un (un (un ms))
  refine wpAny_execs_cons (wpAny_Expr (MethodCall_ (ld F12 gs (Calls.getMethod_list_append hs12' rfl rfl (callWith_method1 (spliced_more (sh_ev (a := a) C F12 (un ue) ue gf hf12 (by rw [List.size_toArray]; exact lf) hy fun y2 k2 tk2 hy2 => spliced_none ?_)))))))
  refine append_at hs12' (fun h13 hs13 hs13' => ?_) (by show vs.toArray.size ≤ sizeLine; rw [List.size_toArray]; omega)
  dsimp only
  have F13 := same_fr nDs hB.2.2 hs13 F12
  have hc13 := (hs13.2 Dc hd2).trans hc12
  have hf13 := (hs13.2 Df hd3).trans hf12
  rw [List.push_toArray] at hc13 hf13 hs13'
  have ey : y = ⟨(fig9 a).toArray⟩ := str_ext (by rw [hy])
  have ey2 : y2 = ⟨(sh9 a).toArray⟩ := str_ext (by rw [hy2])
  rw [ey] at hf13
  rw [ey2] at hs13'
  have kp : ∀ {xs : List Addr} {D : Addr} {h1 h2 : Heap}, Heap.SameBut D h1 h2 → D ∈ xs → Kp xs h1 h2 := fun hs hD => Kp.of_same hs hD
  have K013 : Kp [L, Dc, Df, Ds] h h13 := ((((K09.mono (by simp)).trans (kp hs10 (by simp))).trans (.of_stays K11)).trans (kp hs12 (by simp))).trans (kp hs13 (by simp))
  refine wpAny_execs_nil ⟨rfl, _, h13, _, rfl, F13, K013, ⟨_, _, _, _, _, _, hc13, ?_, hf13, ?_, hs13', ?_⟩, gk, gf, gs, rfl⟩
  · rw [List.map_append]; exact ints_snoc ic
  · rw [List.map_append]; exact strs_snoc jf
  · rw [List.map_append]; exact strs_snoc js
end
end Mine
end
section
open PySem PySem.W PyProof.Rows
open PySem.Builtin PySem.Builtin.Str
namespace Mine

def all9 (ns : List Int) : List Int := [0, 1, 2, 3, 4] ++ ns
theorem ints_get : ∀ {vs : List Value} {ns : List Int}, IntsAre vs ns → ∀ {i : Nat} {v : Value}, vs[i]? = some v → ∃ a t, ns[i]? = some a ∧ v = .int a t
  | _, _, .nil, i, v, h => by simp at h
  | _, _, .cons a t r, 0, v, h => ⟨a, t, rfl, by simpa using h.symm⟩
  | _, _, .cons a t r, i + 1, v, h => ints_get r (by simpa using h)
section
variable {prog : Program} {w : World} {A : Around} {E : Value → Shared → Prop} {B h : Heap} {f L l : Addr} {g : Array GenState} {d : Drawn} {tk : Nat} {os : OsState} {cd : Value} {m : Str → Option Value}

theorem first_loop {Q : Flow → Shared → Prop} {vs : List Value} {ns : List Int} (C : Ctx B L) (hfr : A.frames = some [envL L f cd]) (hh : A.handled = none) (hroom : A.depth < recursionLimit)
    (F : Fr B L h m) (hm : m "script" = some (.ref l)) (hl : B.IsList l vs.toArray) (hI : IntsAre vs ns) (hn : ns.length ≤ 63)
    (hq : ∀ h' m' tk Dc Df Ds, Fr B L h' m' → Accs h' Dc Df Ds (all9 ns) → m' "codes" = some (.ref Dc) → m' "figures" = some (.ref Df) → m' "shown" = some (.ref Ds) →
      wpAny (model prog w) A (execs (lawBody.drop 4) (envL L f cd)) Q E ⟨h', g, d, tk, os⟩) :
    wpAny (model prog w) A (execs lawBody (envL L f cd)) Q E ⟨h, g, d, tk, os⟩ := by
  have hsl : sizeLine = 16777216 := rfl
  refine wpAny_execs_cons (wpAny_Assign_Name (List_ (spliced_none (wp_newList (by show 0 ≤ sizeLine; omega) ?_))))
  dsimp only
  have F1 := F.push { cls := .type "list", data := .seq ([] : List Value).toArray }
  have o1 := Heap.get?_push_size h (o := { cls := .type "list", data := .seq ([] : List Value).toArray }) rfl
  have nL1 : h.objs.size ≠ L := Nat.ne_of_gt F.ns.lt
  refine storeN F1 (fun h2 F2 K2 => ?_)
  have c2 := K2.get F1.ns o1 (fun _ _ q => by cases q)
  refine wpAny_execs_cons (wpAny_Assign_Name (List_ (spliced_none (wp_newList (by show 0 ≤ sizeLine; omega) ?_))))
  dsimp only
  have F3 := F2.push { cls := .type "list", data := .seq ([] : List Value).toArray }
  have o3 := Heap.get?_push_size h2 (o := { cls := .type "list", data := .seq ([] : List Value).toArray }) rfl
  refine storeN F3 (fun h4 F4 K4 => ?_)
  have c4 := K4.get F3.ns (Heap.get?_push_of_some _ c2) (fun _ _ q => by cases q)
  have f4 := K4.get F3.ns o3 (fun _ _ q => by cases q)
  refine wpAny_execs_cons (wpAny_Assign_Name (List_ (spliced_none (wp_newList (by show 0 ≤ sizeLine; omega) ?_))))
  dsimp only
  have F5 := F4.push { cls := .type "list", data := .seq ([] : List Value).toArray }
  have o5 := Heap.get?_push_size h4 (o := { cls := .type "list", data := .seq ([] : List Value).toArray }) rfl
  refine storeN F5 (fun h6 F6 K6 => ?_)
  have c6 := K6.get F5.ns (Heap.get?_push_of_some _ c4) (fun _ _ q => by cases q)
  have f6 := K6.get F5.ns (Heap.get?_push_of_some _ f4) (fun _ _ q => by cases q)
  have s6 := K6.get F5.ns o5 (fun _ _ q => by cases q)
  have q1 : h.get? h.objs.size = none := Heap.get?_none_of_le (Nat.le_refl _)
  have q2 : h2.get? h2.objs.size = none := Heap.get?_none_of_le (Nat.le_refl _)
  have q3 : h4.get? h4.objs.size = none := Heap.get?_none_of_le (Nat.le_refl _)
  have d1 : h.objs.size ≠ h2.objs.size := Nat.ne_of_lt (Heap.lt_size c2)
  have d2 : h.objs.size ≠ h4.objs.size := Nat.ne_of_lt (Heap.lt_size c4)
  have d3 : h2.objs.size ≠ h4.objs.size := Nat.ne_of_lt (Heap.lt_size f4)
  have b1 := fresh_B F q1
  have b2 := fresh_B F2 q2
  have b3 := fresh_B F4 q3
  have e1 := not_frame F6.ns c6 (fun _ _ q => by cases q)
  have e2 := not_frame F6.ns f6 (fun _ _ q => by cases q)
  have e3 := not_frame F6.ns s6 (fun _ _ q => by cases q)
  refine wpAny_execs_cons (wpAny_For (wpAny_BinOp (List_ ?_)))
  refine spliced_more (wpAny_Constant_int (spliced_more (wpAny_Constant_int (spliced_more (wpAny_Constant_int (spliced_more (wpAny_Constant_int (spliced_more (wpAny_Constant_int (spliced_none (wp_newList (by show 5 ≤ sizeLine; omega) ?_)))))))))))
  dsimp only
  generalize hlo : ({ cls := .type "list", data := .seq _ } : Obj) = lobj
  have l7 := Heap.get?_push_size h6 (o := lobj) (by rw [← hlo]; rfl)
  rw [← hlo] at l7
  have N7 : News B L (h6.push lobj) [(h.objs.size, listObj [] 0), (h2.objs.size, listObj [] 0), (h4.objs.size, listObj [] 0)] := by
    intro p hp
    simp only [List.mem_cons, List.not_mem_nil, or_false] at hp
    rcases hp with rfl | rfl | rfl
    · exact ⟨Heap.get?_push_of_some _ c6, e1, b1⟩
    · exact ⟨Heap.get?_push_of_some _ f6, e2, b2⟩
    · exact ⟨Heap.get?_push_of_some _ s6, e3, b3⟩
  have F7 := F6.push lobj
  have hl7 : (h6.push lobj).IsList l vs.toArray := by obtain ⟨o, ho, r⟩ := hl; exact ⟨o, F7.keep _ _ ho, r⟩
  refine ld F7 (un (un (un hm))) (add_lists_ints (hsz := by show 5 + ns.length ≤ sizeLine; omega) F7 N7 (vs := [_, _, _, _, _]) ⟨_, (by rw [← hlo]; exact l7), rfl, _, rfl⟩ hl7 (.cons _ _ (.cons _ _ (.cons _ _ (.cons _ _ (.cons _ _ .nil))))) hI fun h8 F8 N8 hI8 => ?_)
  dsimp only
  have T8 := N8.get (.head _)
  have cc8 := N8.get (.tail _ (.head _))
  have ff8 := N8.get (.tail _ (.tail _ (.head _)))
  have ss8 := N8.get (.tail _ (.tail _ (.tail _ (.head _))))
  refine wpAny_pyIter_list (s := ⟨h8, g, d, _, os⟩) (l := (h6.push lobj).objs.size) ⟨_, T8, rfl, _, rfl⟩ ?_
  dsimp only
  generalize hio : ({ cls := .type "list_iterator", data := .fields _ } : Obj) = iobj
  have i9 := Heap.get?_push_size h8 (o := iobj) (by rw [← hio]; rfl)
  have T9 := Heap.get?_push_of_some iobj T8
  have hI8' : h8.get? h8.objs.size = none := Heap.get?_none_of_le (Nat.le_refl _)
  have hnI : ∀ {p : Addr} {o : Obj}, h8.get? p = some o → p ≠ h8.objs.size := fun e => Nat.ne_of_lt (Heap.lt_size e)
  have F9 := F8.push iobj
  have hIL : h8.objs.size ≠ L := fun q => by obtain ⟨o, es, ep, ho, _⟩ := F8.ns; rw [← q, hI8'] at ho; cases ho
  have hTL : (h6.push lobj).objs.size ≠ L := not_frame F8.ns T8 (fun _ _ q => by cases q)
  have tn : ∀ {p : Addr}, p = h.objs.size ∨ p = h2.objs.size ∨ p = h4.objs.size → p ≠ (h6.push lobj).objs.size ∧ p ≠ h8.objs.size ∧ p ≠ L := fun {p} hp => by
    have : (h6.push lobj).get? p = none → False := fun e => by
      rcases hp with rfl | rfl | rfl
      · have := (N7 _ (.head _)).1; rw [e] at this; cases this
      · have := (N7 _ (.tail _ (.head _))).1; rw [e] at this; cases this
      · have := (N7 _ (.tail _ (.tail _ (.head _)))).1; rw [e] at this; cases this
    refine ⟨fun q => this (by rw [q]; exact Heap.get?_none_of_le (Nat.le_refl _)), ?_, ?_⟩
    · rcases hp with rfl | rfl | rfl
      · exact hnI cc8
      · exact hnI ff8
      · exact hnI ss8
    · rcases hp with rfl | rfl | rfl
      · exact e1
      · exact e2
      · exact e3
  have t1 := tn (.inl rfl)
  have t2 := tn (.inr (.inl rfl))
  have t3 := tn (.inr (.inr rfl))
  have hn68 : (all9 ns).length ≤ 100 := by simp [all9]; omega
  refine for_law (ws := [h.objs.size, h2.objs.size, h4.objs.size]) (Walks.list (prog := prog) (w := w) (A := A) hh h8.objs.size (h6.push lobj).objs.size (hnI T8) _) (L := L) (B := B) (h0 := h8.push iobj)
    (fun q => by rcases List.mem_cons.mp q with q | q; exact hIL q.symm; exact hTL (List.mem_singleton.mp q).symm) (fun q => hIL (List.mem_singleton.mp q).symm) (fun b hb => by rw [List.mem_singleton.mp hb]; exact fresh_B F8 hI8')
    (fun b hb => by
      simp only [List.mem_cons, List.not_mem_nil, or_false] at hb
      intro q
      rcases List.mem_cons.mp q with q | q
      · exact (tn hb).2.1 q
      · exact (tn hb).1 (List.mem_singleton.mp q)) C.bl rfl rfl rfl
    (fun i m' h' => Accs h' h.objs.size h2.objs.size h4.objs.size ((all9 ns).take i) ∧ m' "codes" = some (.ref h.objs.size) ∧ m' "figures" = some (.ref h2.objs.size) ∧ m' "shown" = some (.ref h4.objs.size)) ?_ F9
    ⟨⟨_, i9, by rw [← hio], by rw [← hio]; rfl⟩, ⟨_, T9, rfl, _, rfl⟩⟩ ⟨⟨[], [], [], 0, 0, 0, Heap.get?_push_of_some _ cc8, .nil, Heap.get?_push_of_some _ ff8, .nil, Heap.get?_push_of_some _ ss8, .nil⟩, un (un ue), un ue, ue⟩ ?_ ?_
  · rintro i m' ha hb ⟨Ac, j1, j2, j3⟩ K
    obtain ⟨vc, vf, vs', nc, nf, ns', hc, ic, hf, jf, hs, js⟩ := Ac.ex
    have keep : ∀ {p : Addr} {o : Obj}, p = h.objs.size ∨ p = h2.objs.size ∨ p = h4.objs.size → ha.get? p = some o → hb.get? p = some o := fun hp e => K _ _ e fun q => by
      rcases List.mem_cons.mp q with q | q
      · exact (tn hp).2.2 q
      · exact (tn hp).2.1 (List.mem_singleton.mp q)
    exact ⟨⟨vc, vf, vs', nc, nf, ns', keep (.inl rfl) hc, ic, keep (.inr (.inl rfl)) hf, jf, keep (.inr (.inr rfl)) hs, js⟩, j1, j2, j3⟩
  · rintro i m1 h10 tk10 v E' hi ⟨Ac, j1, j2, j3⟩ hv F10 K10
    rw [List.getElem?_toArray] at hv
    obtain ⟨a, t, ha, rfl⟩ := ints_get hI8 hv
    have ha' : (all9 ns)[i]? = some a := ha
    refine wpAny_mono (first_turn (as := (all9 ns).take i) (a := a) (ka := t) C hfr hh hroom F10 d1 d2 d3 ⟨b1, b2, b3⟩ Ac (by rw [List.length_take]; omega) ue (un j1) (un j2) (un j3)) (fun fl s3 hs => ?_) fun _ _ q => q
    obtain ⟨rfl, m3, h3, tk3, rfl, F11, K11, Ac2, x1, x2, x3, _⟩ := hs
    have etk : (all9 ns).take (i + 1) = (all9 ns).take i ++ [a] := by rw [List.take_add_one, ha']; rfl
    exact ⟨rfl, m3, h3, tk3, rfl, F11, K11, by rw [etk]; exact Ac2, x1, x2, x3⟩
  · rintro m6 h11 tk11 ⟨Ac, j1, j2, j3⟩ F11 K11
    rw [List.take_of_length_le (by rw [List.size_toArray, hI8.length]; exact Nat.le_refl _)] at Ac
    exact hq _ _ _ _ _ _ F11 Ac j1 j2 j3
end
end Mine
end
section
open PySem PySem.W PyProof.Rows
open PySem.Builtin PySem.Builtin.Str
namespace Mine

def rowE : PySem.Expr := valueOf (nth lawBody 4)
theorem strs_chr : ∀ {vs ys : List Value} {ns : List Nat}, Paired (fun (v y : Value) => ∃ (c : Nat) (t u : Tok), v = .int (c : Int) t ∧ y = .str ⟨#[c]⟩ u) vs ys → IntsAre vs (ns.map fun (c : Nat) => Int.ofNat c) → StrsAre ys (ns.map fun c => (⟨#[c]⟩ : Str))
  | _, _, [], .nil, h => .nil
  | _, _, c :: r, .cons hab hr, h => by
    cases h with
    | cons i t hi =>
      obtain ⟨c', t', u, e1, rfl⟩ := hab
      have e2 : c = c' := by injection e1 with e _; exact Int.ofNat.inj e
      subst e2
      exact .cons _ _ (strs_chr hr hi)
  | _, _, [], .cons _ _, h => nomatch h
  | _, _, _ :: _, .nil, h => nomatch h
theorem mem_nat {vs : List Value} {ns : List Nat} {v : Value} (h : IntsAre vs (ns.map fun (c : Nat) => Int.ofNat c)) (hv : v ∈ vs) : ∃ c t, c ∈ ns ∧ v = .int ((c : Nat) : Int) t := by
  obtain ⟨i, hi⟩ := List.getElem?_of_mem hv
  obtain ⟨a, t, ha, rfl⟩ := ints_get h hi
  rw [List.getElem?_map] at ha
  cases hn : ns[i]? with
  | none => rw [hn] at ha; cases ha
  | some c => rw [hn] at ha; cases ha; exact ⟨c, t, List.mem_of_getElem? hn, rfl⟩
theorem ones_sum : ∀ ns : List Nat, ((ns.map fun c => (⟨#[c]⟩ : Str)).map (·.length)).sum = ns.length
  | [] => rfl
  | a :: r => by
    have ih := ones_sum r
    have : (⟨#[a]⟩ : Str).length = 1 := rfl
    simp only [List.map_cons, List.sum_cons, List.length_cons, this] at ih ⊢
    omega

section
variable {prog : Program} {w : World} {A : Around} {E : Value → Shared → Prop} {B : Heap} {s : Shared} {f L D : Addr} {cd : Value} {m : Str → Option Value}

theorem row_ev {Q : Value → Shared → Prop} {vc : List Value} {n : Nat} {as : List Int} (C : Ctx B L) (hh : A.handled = none) (F : Fr B L s.heap m) (hm : m "codes" = some (.ref D)) (hD : s.heap.get? D = some (listObj vc n))
    (hI : IntsAre vc (as.map fun a => (code9 a : Int))) (hn : as.length ≤ 100) (hq : ∀ h' tk k, s.heap.StaysIn h' → Q (.str (row9 as) k) { s with heap := h', toks := tk }) :
    wpAny (model prog w) A (eval rowE (envL L f cd)) Q E s := by
  have hsl : sizeLine = 16777216 := rfl
  have hI2 : IntsAre vc ((as.map code9).map fun (c : Nat) => Int.ofNat c) := by rw [List.map_map]; exact hI
  have hvl := hI.length
  rw [List.length_map] at hvl
  refine MethodCall_ (Calls.Constant_str (GM.join (callWith_method1 (spliced_more ?_))))
  refine wpAny_ListComp_map (fun _ => true) (fun (v y : Value) => ∃ (c : Nat) (t u : Tok), v = .int (c : Int) t ∧ y = .str ⟨#[c]⟩ u) hh (by decide) (by decide) rfl (by decide) rfl ?_
  refine ld F hm ⟨D, vc.toArray, rfl, ⟨_, hD, rfl, _, rfl⟩, ?_, ?_, ?_, ?_⟩
  · rw [List.size_toArray]; omega
  · intro C' v s2 m2 E' hv hn2 hm2 hk2
    exact wpAny_pure ⟨rfl, s2.heap, s2.toks, rfl, fun _ _ e => e⟩
  · intro C' v s2 m2 E' hv hpv hn2 hm2 hk2
    obtain ⟨c, t, hc, rfl⟩ := mem_nat hI2 (by simpa using hv)
    obtain ⟨a, _, rfl⟩ := List.mem_map.mp hc
    have hcl := (code9_ge a).2
    have bs2 : B.StaysIn s2.heap := fun b o e => hk2 b o (F.keep b o e)
    refine Call_ (ld_global C.gchr bs2 (PyProof.Rows.callWith_builtin1 (spliced_more (wpAny_Name (wpAny_loadName_local rfl rfl hn2 hm2 (spliced_none (chr_of_range (by omega) (by omega) ?_))) (by decide)))))
    exact ⟨⟨code9 a, _, _, rfl, by rw [Int.toNat_natCast]⟩, s2.heap, _, rfl, fun _ _ e => e⟩
  · intro D' h' tk ys hD' hys hp hk
    have hst : StrsAre ys.toList ((as.map code9).map fun c => (⟨#[c]⟩ : Str)) := strs_chr (by rw [show vc.toArray.toList.filter (fun _ => true) = vc from List.filter_eq_self.mpr fun _ _ => rfl] at hp; exact hp) hI2
    refine spliced_none (join_listC hys hst (by decide +kernel) ?_ fun k2 tk2 => ?_)
    · have e2 := ones_sum (as.map code9)
      rw [List.length_map] at e2 ⊢
      rw [List.length_map]
      omega
    · have e3 : Txt.join (Str.ofString "") ((as.map code9).map fun c => (⟨#[c]⟩ : Str)) = row9 as := by
        have e4 : Str.ofString "" = ⟨#[]⟩ := by decide +kernel
        rw [e4]
        show Builtin.Str.glued _ _ = _
        rw [StrLaws.glued_eq_join]
        exact join_ones _
      rw [e3]
      exact hq _ _ _ (fun b o e => hk b o e)
end
end Mine
end
section
open PySem PySem.W PyProof.Rows
open PySem.Builtin PySem.Builtin.Str
namespace Mine

theorem mul_p : ∀ n : Fin 3, Txt.mul (Str.ofString "p") (n.val : Int) = rep 112 n.val := by decide +kernel
theorem mul_q : ∀ n : Fin 2, Txt.mul (Str.ofString "q") (n.val : Int) = rep 113 n.val := by decide +kernel
theorem row9_len (as : List Int) : (row9 as).length = as.length := by
  show ((as.map code9).toArray).size = _
  simp
def textE : PySem.Expr := valueOf (nth turnB 1)

section
variable {prog : Program} {w : World} {A : Around} {E : Value → Shared → Prop} {B h : Heap} {f L : Addr} {g : Array GenState} {d : Drawn} {tk : Nat} {os : OsState} {cd : Value} {m : Str → Option Value}

theorem text9_ev {Q : Value → Shared → Prop} {as : List Int} {k : Nat} {kf kr kk : Tok} (F : Fr B L h m) (mf : m "front" = some (.int ((k % 3 : Nat) : Int) kf)) (mr : m "row" = some (.str (row9 as) kr)) (mk : m "k" = some (.int (k : Int) kk)) (hk : k < as.length) (hn : as.length ≤ 100)
    (hq : ∀ h' tk t, Fr B L h' m → h.StaysIn h' → Q (.str (data9 as k) t) ⟨h', g, d, tk, os⟩) :
    wpAny (model prog w) A (eval textE (envL L f cd)) Q E ⟨h, g, d, tk, os⟩ := by
  have hsl : sizeLine = 16777216 := rfl
  have hrl := row9_len as
  have h3 : k % 3 < 3 := Nat.mod_lt _ (by decide)
  have h2 : k % 2 < 2 := Nat.mod_lt _ (by decide)
  have hrep : ∀ c n, (rep c n).length = n := fun c n => by show (List.replicate n c).toArray.size = n; simp
  have hsl2 : (suf (row9 as) k).length ≤ 100 := by
    show ((row9 as).cps.toList.drop k).toArray.size ≤ 100
    have : (row9 as).cps.toList.length = (row9 as).length := Array.length_toList
    rw [List.size_toArray, List.length_drop]; omega
  refine wpAny_BinOp (wpAny_BinOp (wpAny_BinOp (Calls.Constant_str (ld F mf ?_))))
  refine PySem.W.KXi.mul (n := 1) (by decide +kernel) (by decide) (by omega) (by omega) fun k1 tk1 _ _ => ?_
  rw [mul_p ⟨k % 3, h3⟩]
  refine Subscript_Slice (ld F mr (wpAny_Slice (evalPart_some_step (ld F mk (evalPart_none_step (evalPart_none_step ?_))))))
  refine SBH.sliceItem_sn (P := fun h' => h.StaysIn h') (fun h' ob k b o e => Heap.get?_push_of_some _ (k b o e)) (fun _ _ e => e) (fun h6 t6 k6 K6 => ?_) (by omega)
  rw [slice_suf _ (by omega)]
  have F6 : Fr B L h6 m := ⟨F.ns.keeps K6, fun b o e => K6 b o (F.keep b o e), F.above⟩
  refine PyProof.Rows.add_str (hsz := by have := hrep 112 (k % 3); dsimp only; omega) fun k7 tk7 => ?_
  refine wpAny_BinOp (Calls.Constant_str (wpAny_BinOp (ld F6 mk (wpAny_Constant_int (mod_int' (by decide) ?_)))))
  have hm : ((k : Int).fmod 2) = ((k % 2 : Nat) : Int) := by rw [Int.fmod_eq_emod_of_nonneg _ (by decide)]; omega
  rw [hm]
  refine PySem.W.KXi.mul (n := 1) (by decide +kernel) (by decide) (by omega) (by omega) fun k8 tk8 _ _ => ?_
  rw [mul_q ⟨k % 2, h2⟩]
  refine PyProof.Rows.add_str (hsz := by have := hrep 112 (k % 3); have := hrep 113 (k % 2); simp only [Str.length_append]; omega) fun k9 tk9 => ?_
  exact hq h6 _ _ F6 K6
end
end Mine
end
section
open PySem PySem.W PyProof.Rows
open PySem.Builtin PySem.Builtin.Str
namespace Mine

theorem join_flat : ∀ l : List (List Nat), Str.join ⟨#[]⟩ (l.map fun x => (⟨x.toArray⟩ : Str)) = ⟨l.flatten.toArray⟩
  | [] => rfl
  | [x] => by
    show (⟨x.toArray⟩ : Str) = _
    simp
  | x :: y :: r => by
    have ih := join_flat (y :: r)
    have : Str.join ⟨#[]⟩ ((x :: y :: r).map fun x => (⟨x.toArray⟩ : Str)) = (⟨x.toArray⟩ : Str) ++ (⟨#[]⟩ : Str) ++ Str.join ⟨#[]⟩ ((y :: r).map fun x => (⟨x.toArray⟩ : Str)) := rfl
    rw [this, ih]
    apply str_ext
    rw [app_list, app_list]
    simp
theorem strs_drop : ∀ (k : Nat) {vs : List Value} {ys : List Str}, StrsAre vs ys → StrsAre (vs.drop k) (ys.drop k)
  | 0, _, _, h => h
  | k + 1, _, _, .nil => .nil
  | k + 1, _, _, .cons a t r => strs_drop k r
theorem strs_take : ∀ (k : Nat) {vs : List Value} {ys : List Str}, StrsAre vs ys → StrsAre (vs.take k) (ys.take k)
  | 0, _, _, h => .nil
  | k + 1, _, _, .nil => .nil
  | k + 1, _, _, .cons a t r => .cons a t (strs_take k r)
theorem strs_get : ∀ {vs : List Value} {ys : List Str}, StrsAre vs ys → ∀ {i : Nat} {y : Str}, ys[i]? = some y → ∃ t, vs[i]? = some (.str y t)
  | _, _, .nil, i, v, h => by simp at h
  | _, _, .cons a t r, 0, v, h => ⟨t, by simpa using h⟩
  | _, _, .cons a t r, i + 1, v, h => strs_get r (by simpa using h)
theorem sh9_len (a : Int) : (sh9 a).length ≤ 10 := by
  have hx : ∀ wd c, (hexL wd c).length = wd := fun wd c => by simp [hexL]
  unfold sh9 fig9
  split
  · simp
  · split
    · rw [List.length_append, hx]; simp
    · rw [List.length_append, hx]; simp
theorem fig9_len (a : Int) : (fig9 a).length ≤ 10 := by
  have hx : ∀ wd c, (hexL wd c).length = wd := fun wd c => by simp [hexL]
  unfold fig9
  split
  · rw [List.length_append, hx]; simp
  · rw [List.length_append, hx]; simp
theorem sh9_sum : ∀ as : List Int, ((as.map fun a => (⟨(sh9 a).toArray⟩ : Str)).map (·.length)).sum ≤ as.length * 10
  | [] => Nat.le_refl _
  | a :: r => by
    have ih := sh9_sum r
    have h := sh9_len a
    have : (⟨(sh9 a).toArray⟩ : Str).length = (sh9 a).length := by show ((sh9 a).toArray).size = _; simp
    simp only [List.map_cons, List.sum_cons, List.length_cons, this] at ih ⊢
    omega
theorem flat9_max : ∀ as : List Int, (flat9 as).length ≤ as.length * 10
  | [] => Nat.le_refl _
  | a :: r => by
    have ih := flat9_max r
    have h := sh9_len a
    unfold flat9 at ih ⊢
    simp only [List.map_cons, List.flatten_cons, List.length_append, List.length_cons]
    omega
theorem slice_pre' (x : Str) (k : Nat) : Txt.slice x none (some (k : Int)) = pre x k := by
  by_cases hk : k ≤ x.length
  · exact slice_pre x hk
  · have e : Txt.slice x none (some (k : Int)) = Txt.slice x none (some (x.length : Int)) := by
      show StrLaws.sliceText x none (some (k : Int)) = StrLaws.sliceText x none (some (x.length : Int))
      unfold StrLaws.sliceText
      have e2 : strSliceIndices none (some (k : Int)) 1 x.length = strSliceIndices none (some (x.length : Int)) 1 x.length := by
        have a1 : ¬ ((k : Int) < 0) := by omega
        have a2 : ¬ ((x.length : Int) < 0) := by omega
        have a3 : min (k : Int) (x.length : Int) = (x.length : Int) := by omega
        simp [strSliceIndices, a1, a2, a3]
      rw [e2]
    rw [e, slice_pre x (Nat.le_refl _)]
    have hx : x.cps.toList.length = x.length := Array.length_toList
    unfold pre
    rw [List.take_of_length_le (by omega), List.take_of_length_le (by omega)]
def partE : PySem.Expr := valueOf (nth turnB 3)
def S9 (l : List Nat) : Str := ⟨l.toArray⟩
theorem S9_list (l : List Nat) : (S9 l).cps.toList = l := by simp [S9]
theorem S9_len (l : List Nat) : (S9 l).length = l.length := by show l.toArray.size = _; simp
theorem part_eq (as : List Int) (k : Nat) : pre ((Str.ofString "'" ++ S9 (flat9 ((as.drop k).take 20))) ++ Str.ofString "'") 20 = part9S as k := by
  apply str_ext
  have e1 : (Str.ofString "'").cps.toList = [39] := by decide +kernel
  rw [pre_list, app_list, app_list, S9_list, e1]
  unfold part9S
  rw [List.toList_toArray]

section
variable {prog : Program} {w : World} {A : Around} {E : Value → Shared → Prop} {B h : Heap} {f L D : Addr} {g : Array GenState} {d : Drawn} {tk : Nat} {os : OsState} {cd : Value} {m : Str → Option Value}

theorem tail_item {value slice : PySem.Expr} {o i : Value} {ops : List Value} {Q : Value → Shared → Prop} {s : Shared} (h : ItemOn (model prog w) A E o i Q s) (hs : subscripted slice false o i = operate ops (getItem o i)) :
    wpAny (model prog w) A (subscriptTail value slice o i) Q E s := by
  obtain ⟨T, id, hl, hT, hg⟩ := h
  exact tail_any hT hl hg hs
set_option maxHeartbeats 4000000 in
theorem part_ev {Q : Value → Shared → Prop} {vs : List Value} {as : List Int} {n k : Nat} {kk : Tok} (F : Fr B L h m) (ms : m "shown" = some (.ref D)) (mk : m "k" = some (.int (k : Int) kk)) (hD : h.get? D = some (listObj vs n))
    (hS : StrsAre vs (as.map fun a => (⟨(sh9 a).toArray⟩ : Str))) (hk : k < as.length) (hn : as.length ≤ 100) (hq : ∀ h' tk t, Fr B L h' m → h.StaysIn h' → Q (.str (part9S as k) t) ⟨h', g, d, tk, os⟩) :
    wpAny (model prog w) A (eval partE (envL L f cd)) Q E ⟨h, g, d, tk, os⟩ := by
  have hsl : sizeLine = 16777216 := rfl
  have hvl := hS.length
  rw [List.length_map] at hvl
  have z1 : (Str.ofString "'").length = 1 := by decide +kernel
  refine Subscript_ (wpAny_BinOp (wpAny_BinOp (Calls.Constant_str (MethodCall_ (Calls.Constant_str (GM.join (callWith_method1 (spliced_more ?_))))))))
  refine Subscript_Slice (ld F ms (wpAny_Slice (evalPart_some_step (ld F mk (evalPart_some_step (wpAny_BinOp (ld F mk ?_)))))))
  refine wpAny_Constant_int ?_
  refine add_int ?_
  refine evalPart_none_step ?_
  have e20 : (k : Int) + 20 = ((k + 20 : Nat) : Int) := by omega
  rw [e20]
  refine ⟨"list", _, slot_list_getitem.lookup, ⟨_, Heap.get?_push_of_some _ hD, rfl⟩, wpAny_getItem_list_slice (lo := some (k : Int)) (hi := some ((k + 20 : Nat) : Int)) (st := none) ⟨_, Heap.get?_push_of_some _ hD, rfl, _, rfl⟩ (Heap.IsSliceOf.new ..) (.int _ _) (.int _ _) .none (by decide) ?_
    (by show vs.toArray.size ≤ sizeLine; rw [List.size_toArray]; omega)⟩
  have hpick : slicePick vs.toArray (some (k : Int)) (some ((k + 20 : Nat) : Int)) none = ((vs.drop k).take 20).toArray := by
    rw [slicePick_plain]
    simp only [Option.elim, clipAt_nat, List.size_toArray]
    congr 1
    rw [Nat.min_eq_left (by omega : k ≤ vs.length)]
    rcases Nat.le_total (k + 20) vs.length with h2 | h2
    · rw [Nat.min_eq_left h2]; congr 1; omega
    · rw [Nat.min_eq_right h2, List.take_of_length_le (by simp), List.take_of_length_le (by simp; omega)]
  rw [hpick]
  dsimp only
  generalize hso : ({ cls := .type "slice", data := .fields _ } : Obj) = sobj
  generalize hlo : ({ cls := .type "list", data := .seq _ } : Obj) = lobj
  have hl3 := Heap.get?_push_size (h.push sobj) (o := lobj) (by rw [← hlo]; rfl)
  have F3 := (F.push sobj).push lobj
  have K3 : h.StaysIn ((h.push sobj).push lobj) := fun b o e => Heap.get?_push_of_some _ (Heap.get?_push_of_some _ e)
  have hst : StrsAre ((vs.drop k).take 20) (((as.drop k).take 20).map fun a => (⟨(sh9 a).toArray⟩ : Str)) := by
    rw [List.map_take, List.map_drop]; exact strs_take 20 (strs_drop k hS)
  refine spliced_none (join_listC (items := ((vs.drop k).take 20).toArray) ⟨_, hl3, by rw [← hlo], _, by rw [← hlo]⟩ hst (by decide +kernel) ?_ fun k2 tk2 => ?_)
  · have e2 := sh9_sum ((as.drop k).take 20)
    rw [List.length_map]
    have : ((as.drop k).take 20).length ≤ 20 := by rw [List.length_take]; omega
    omega
  have e3 : Txt.join (Str.ofString "") (((as.drop k).take 20).map fun a => (⟨(sh9 a).toArray⟩ : Str)) = S9 (flat9 ((as.drop k).take 20)) := by
    have e4 : Str.ofString "" = ⟨#[]⟩ := by decide +kernel
    have e5 : ((as.drop k).take 20).map (fun a => (⟨(sh9 a).toArray⟩ : Str)) = (((as.drop k).take 20).map sh9).map fun x => (⟨x.toArray⟩ : Str) := by rw [List.map_map]; rfl
    rw [e4, e5]
    show Builtin.Str.glued _ _ = _
    rw [StrLaws.glued_eq_join]
    exact join_flat _
  rw [e3]
  have hfl := flat9_max ((as.drop k).take 20)
  have h20 : ((as.drop k).take 20).length ≤ 20 := by rw [List.length_take]; omega
  have hS9 := S9_len (flat9 ((as.drop k).take 20))
  refine PyProof.Rows.add_str (hsz := by omega) fun k3 tk3 => ?_
  refine Calls.Constant_str (PyProof.Rows.add_str (hsz := by simp only [Str.length_append]; omega) fun k4 tk4 => ?_)
  dsimp only
  refine wpAny_Slice (evalPart_none_step (evalPart_some_step (wpAny_Constant_int (evalPart_none_step ?_))))
  refine tail_item ?_ (by with_unfolding_all rfl)
  refine SBH.sliceItem_ns (P := fun h' => ((h.push sobj).push lobj).StaysIn h') (fun h' ob k b o e => Heap.get?_push_of_some _ (k b o e)) (fun _ _ e => e) (fun h6 t6 k6 K6 => ?_) (by simp only [Str.length_append]; omega)
  have hsl2 : Txt.slice ((Str.ofString "'" ++ S9 (flat9 ((as.drop k).take 20))) ++ Str.ofString "'") none (some (20 : Int)) = pre ((Str.ofString "'" ++ S9 (flat9 ((as.drop k).take 20))) ++ Str.ofString "'") 20 := by
    exact slice_pre' _ 20
  rw [hsl2, part_eq]
  exact hq h6 _ _ ⟨F3.ns.keeps K6, fun b o e => K6 b o (F3.keep b o e), F3.above⟩ fun b o e => K6 b o (K3 b o e)
end
end Mine
end
section
open PySem PySem.W PyProof.Rows
open PySem.Builtin PySem.Builtin.Str
namespace Mine

def tryB9 : Stmt → List Stmt
  | .Try b _ _ _ _ => b
  | _ => []
def toldE : PySem.Expr := valueOf (nth (tryB9 (nth turnB 9)) 0)
theorem part9S_len (as : List Int) (k : Nat) : (part9S as k).length ≤ 20 := by
  show ((([39] ++ flat9 ((as.drop k).take 20) ++ [39]).take 20).toArray).size ≤ 20
  rw [List.size_toArray, List.length_take]; omega
theorem words9_len (as : List Int) (k named : Nat) : (words9 as k named).length ≤ 200 := by
  have z0 : (Str.ofString " (").length = 2 := by decide +kernel
  have z1 : (Str.ofString ") is not valid Latin-1. Use ").length = 28 := by decide +kernel
  have z2 : encodeS.length = 57 := by decide +kernel
  have z3 : (Str.ofString "H1 Line").length = 7 := by decide +kernel
  have z4 : (Str.ofString "h1 line").length = 7 := by decide +kernel
  have z5 : (Str.ofString "Data").length = 4 := by decide +kernel
  have z6 : (Str.ofString "data").length = 4 := by decide +kernel
  have h1 := part9S_len as k
  unfold words9 titleOf9 nameOf
  simp only [Str.length_append]
  split <;> omega
theorem data9_fine {as : List Int} {k : Nat} (hn : as.length ≤ 100) : Fine (data9 as k) := by
  have h3 : k % 3 < 3 := Nat.mod_lt _ (by decide)
  have h2 : k % 2 < 2 := Nat.mod_lt _ (by decide)
  refine ⟨?_, fun c hc => ?_⟩
  · have : (data9 as k).cps.toList.length = (data9 as k).length := Array.length_toList
    rw [← this, data9_list]
    simp; omega
  · rw [data9_list] at hc
    have h16 : (16 : Nat) ^ 8 = 4294967296 := by decide
    rcases List.mem_append.mp hc with q | q
    · rw [(List.mem_replicate.mp q).2]; omega
    · rcases List.mem_append.mp q with q | q
      · obtain ⟨a, _, rfl⟩ := List.mem_map.mp q
        have := (code9_ge a).2; omega
      · rw [(List.mem_replicate.mp q).2]; omega
theorem lo9_lt {as : List Int} {k : Nat} (hk : k < as.length) : loS (data9 as k) < (data9 as k).cps.toList.length := by
  rw [lo9 hk, data9_list]
  simp; omega

section
variable {prog : Program} {w : World} {A : Around} {E : Value → Shared → Prop} {s : Shared} {B h : Heap} {f L : Addr} {g : Array GenState} {d : Drawn} {tk : Nat} {os : OsState} {cd : Value} {m : Str → Option Value}

theorem told9_ev {Q : Value → Shared → Prop} {as : List Int} {k named : Nat} {kt kn : Tok} (C : Ctx B L) (hfr : A.frames = some [envL L f cd]) (hh : A.handled = none) (hroom : A.depth < recursionLimit)
    (F : Fr B L h m) (mt : m "text" = some (.str (data9 as k) kt)) (mn : m "named" = some (.int (named : Int) kn)) (hk : k < as.length) (hn : as.length ≤ 100)
    (hbad : ∀ h' e t T cx t1 t2 t3 t4 t5 tk, Fr B L h' m → Kp [L] h h' → h.get? e = none → h.get? T = none →
      UeAt h' e (.ref t) (.ref T) cx .none (.bool true) .none latinS (data9 as k) (words9 as k named) (loS (data9 as k)) (hiS (data9 as k)) t1 t2 t5 → T ≠ e → TB h' T .none →
      h'.get? t = some { cls := .type "tuple", data := .seq (ueArgs latinS (data9 as k) (words9 as k named) (loS (data9 as k)) (hiS (data9 as k)) t1 t2 t3 t4 t5).toArray } → E (.ref e) ⟨h', g, d, tk, os⟩) :
    wpAny (model prog w) A (eval toldE (envL L f cd)) Q E ⟨h, g, d, tk, os⟩ := by
  obtain ⟨fe, hfe, ge⟩ := C.fn
  obtain ⟨oE, oT, T0, kV, doc, pm, cdv, ct, an, kt0, hoE, hdE, _⟩ := id hfe
  have hbadx := lo9_lt hk
  have hfine := data9_fine (k := k) hn
  refine IfExp_ (wpAny_isTrue_Compare1 (ld F mn (wpAny_Constant_int (eq_int (wpAny_truthy_bool ?_)))))
  by_cases hn1 : named = 1
  · rw [if_pos (by rw [hn1]; decide)]
    refine Call_ (ld_global ge F.keep (callWith_def hdE (spliced_more (ld F mt (spliced_more (Calls.Constant_str (spliced_none ⟨F.keep _ _ hoE, wpAny_call ?_⟩)))))))
    refine call_enc2 C hfe hfr hh hroom F hfine (by decide +kernel) (fun hlo => absurd hlo (by omega)) ?_
    intro hlo h7 e t T cx t1 t2 t3 t4 t5 tk7 F7 K7 ne nT ue7 hTe tb7 tu7
    have ew : encWords (Str.ofString "h1 line") (data9 as k) = words9 as k named := by
      have := words9_eq (as := as) (k := k) named hk
      rw [← this]; unfold nameOf; rw [if_pos hn1]
    rw [ew] at ue7 tu7
    exact hbad h7 e t T cx t1 t2 t3 t4 t5 tk7 F7 K7 ne nT ue7 hTe tb7 tu7
  · rw [if_neg (by simpa using (by omega : ¬ ((named : Int) = 1)))]
    refine Call_ (ld_global ge F.keep (callWith_def hdE (spliced_more (ld F mt (spliced_none ⟨F.keep _ _ hoE, wpAny_call ?_⟩)))))
    refine call_enc1 C hfe hfr hh hroom F hfine (fun hlo => absurd hlo (by omega)) ?_
    intro hlo h7 e t T cx t1 t2 t3 t4 t5 tk7 F7 K7 ne nT ue7 hTe tb7 tu7
    have ew : encWords (Str.ofString "data") (data9 as k) = words9 as k named := by
      have := words9_eq (as := as) (k := k) named hk
      rw [← this]; unfold nameOf; rw [if_neg hn1]
    rw [ew] at ue7 tu7
    exact hbad h7 e t T cx t1 t2 t3 t4 t5 tk7 F7 K7 ne nT ue7 hTe tb7 tu7

theorem turn_tail {as : List Int} {k named : Nat} {wh : Str} {kt kn kf kl kk kw kc : Tok} (C : Ctx B L) (hfr : A.frames = some [envL L f cd]) (hh : A.handled = none) (hroom : A.depth < recursionLimit) (hu : A.units + 64 < cLine)
    (F : Fr B L h m) (mt : m "text" = some (.str (data9 as k) kt)) (mn : m "named" = some (.int (named : Int) kn)) (mf : m "front" = some (.int ((k % 3 : Nat) : Int) kf)) (ml : m "last" = some (.int ((as.length : Int) - 1) kl)) (mk : m "k" = some (.int (k : Int) kk))
    (mw : m "where" = some (.str wh kw)) (mc : m "words" = some (.str (words9 as k named) kc)) (hwh : wh.cps.toList = where9 as k) (hwl : wh.length ≤ 1000) (hk : k < as.length) (hn : as.length ≤ 100) :
    wpAny (model prog w) A (execs (turnB.drop 8) (envL L f cd)) (fun fl s3 => fl = .next ∧ ∃ m3 h3 tk3, s3 = ⟨h3, g, d, tk3, os⟩ ∧ Fr B L h3 m3 ∧ Kp [L] h h3 ∧
      ∀ y : Str, y ≠ "args" → y ≠ "err" → m3 y = m y) E ⟨h, g, d, tk, os⟩ := by
  have hsl : sizeLine = 16777216 := rfl
  refine wpAny_execs_cons (wpAny_Assign_Name (Tuple_ (spliced_more (Calls.Constant_str (spliced_more (ld F mt (spliced_more (ld F mf (spliced_more ?_)))))))))
  refine wpAny_BinOp (wpAny_BinOp (wpAny_BinOp (ld F mf (ld F ml (add_int ?_)))))
  refine ld F mk (sub_int ?_)
  refine wpAny_Constant_int (add_int (spliced_more (ld F mc (spliced_none (wpAny_newTuple ?_ (by show 5 ≤ sizeLine; omega))))))
  dsimp only
  generalize hro : ({ cls := .type "tuple", data := .seq _ } : Obj) = robj
  have hr4 := Heap.get?_push_size h (o := robj) (by rw [← hro]; rfl)
  obtain ⟨b1, b2, b3, b4, b5, hrob⟩ : ∃ b1 b2 b3 b4 b5, robj = { cls := .type "tuple", data := .seq #[.str latinS b1, .str (data9 as k) b2, .int (loS (data9 as k)) b3, .int (hiS (data9 as k)) b4, .str (words9 as k named) b5] } := by
    rw [← hro, lo9 hk, hi9 hk]
    have e : (((k % 3 : Nat) : Int) + ((as.length : Int) - 1) - (k : Int) + 1) = ((k % 3 + (as.length - k) : Nat) : Int) := by omega
    rw [e]
    exact ⟨_, _, _, _, _, rfl⟩
  rw [hrob] at hr4
  refine storeN (F.push robj) (fun h5 F5 K5 => ?_)
  have hr5 := K5.get (F.push robj).ns (by rw [hrob]; exact hr4) (fun _ _ q => by cases q)
  have K05 : Kp [L] h h5 := (Kp.of_stays fun b o e => Heap.get?_push_of_some _ e).trans K5
  clear hro hr4
  generalize hm5 : (fun z => if z = Str.ofString "args" then some (Value.ref h.objs.size) else _ : Str → Option Value) = m5 at F5
  have g5 : ∀ y : Str, y ≠ "args" → m5 y = m y := fun y n1 => by rw [← hm5]; exact if_neg n1
  have gr : m5 "args" = some (.ref h.objs.size) := by rw [← hm5]; exact ue
  clear hm5
  refine wpAny_execs_cons (wpAny_Try_except ?_)
  refine wpAny_execs_cons (wpAny_Assign_Name (told9_ev (as := as) (k := k) (named := named) C hfr hh hroom F5 ((g5 "text" (by decide)).trans mt) ((g5 "named" (by decide)).trans mn) hk hn ?_))
  intro h7 e t T cx t1 t2 t3 t4 t5 tk7 F7 K7 ne nT ue7 hTe tb7 tu7
  have hr7 := K7.get F5.ns hr5 (fun _ _ q => by cases q)
  have hre : h.objs.size ≠ e := fun q => by rw [q, ne] at hr5; cases hr5
  have hrT : h.objs.size ≠ T := fun q => by rw [q, nT] at hr5; cases hr5
  have hrL : h.objs.size ≠ L := not_frame F5.ns hr5 (fun _ _ q => by cases q)
  have hte : t ≠ e := fun q => by rw [q, ue7] at tu7; have := congrArg Obj.data (Option.some.inj tu7); cases this
  have htT : t ≠ T := fun q => by
    obtain ⟨oT, ts, a1, a2, _⟩ := tb7
    rw [← q, tu7] at a1; cases a1; cases a2
  have htL : t ≠ L := not_frame F7.ns tu7 (fun _ _ q => by cases q)
  have hwl9 := words9_len as k named
  refine caught (Y := "UnicodeEncodeError") (P := fun fl m' => fl = .next ∧ ∀ y : Str, m' y = if y = Str.ofString "err" then some (.ref e) else m5 y) hfr C.bl F7 C.gx (fresh_B F5 ne) (fresh_B F5 nT) ue7 rfl tb7 hTe ue_raise.isExc ue_notTuple ue_new.sub
    (fun h' tk' T' E' F' K' ex' => ?_) (fun fl h8 m8 v8 tk8 hP F8 K8 => ?_)
  · refine check9 (e := e) (t := t) (r := h.objs.size) (wh := wh) (c := words9 as k named) C hu F' ue (un gr) (un ((g5 "where" (by decide)).trans mw)) (un ((g5 "words" (by decide)).trans mc)) ex' (K' _ _ tu7 (by simp [htL, hte, htT])) (K' _ _ hr7 (by simp [hrL, hre, hrT]))
      (by omega) (by omega) ?_
    apply str_ext
    rw [tell9 hk]
    simp only [app_list, hwh]
  obtain ⟨rfl, hy8⟩ := hP
  have K58 : Kp [L] h5 h8 := K7.fresh K8 (by intro p hp; simp at hp; rcases hp with rfl | rfl | rfl <;> simp [ne, nT])
  exact wpAny_execs_nil ⟨rfl, _, h8, tk8, rfl, F8, K05.trans K58, fun y n1 n2 => (if_neg n2).trans ((hy8 y).trans ((if_neg n2).trans (g5 y n1)))⟩
end
end Mine
end
section
open PySem PySem.W PyProof.Rows
open PySem.Builtin PySem.Builtin.Str
namespace Mine

theorem sub_list_str {prog : Program} {w : World} {A : Around} {E : Value → Shared → Prop} {s : Shared} {value slice : PySem.Expr} {l : Addr} {items : Array Value} {k : Int} {M : Str} {u : Tok} {Q : Value → Shared → Prop}
    (hl : s.heap.IsList l items) (h0 : 0 ≤ k) (hhi : k < 2 ^ 63) (hx : ∃ u, items[k.toNat]? = some (.str M u)) (h : ∀ u, Q (.str M u) s)
    (hs : subscripted slice false (.ref l) (.int k u) = operate [.ref l, .int k u] (getItem (.ref l) (.int k u)) := by with_unfolding_all rfl) :
    wpAny (model prog w) A (subscriptTail value slice (.ref l) (.int k u)) Q E s := by
  obtain ⟨u, hu⟩ := hx
  exact sub_list hl h0 hhi hu (h u) hs
theorem pick_title (named : Nat) (hn : named < 2) (t1 t2 : Tok) : ∃ u, ([Value.str (Str.ofString "Data") t1, Value.str (Str.ofString "H1 Line") t2].toArray)[((named : Nat) : Int).toNat]? = some (.str (titleOf9 named) u) := by
  match named, hn with
  | 0, _ => exact ⟨t1, rfl⟩
  | 1, _ => exact ⟨t2, rfl⟩
theorem pick_name (named : Nat) (hn : named < 2) (t1 t2 : Tok) : ∃ u, ([Value.str (Str.ofString "data") t1, Value.str (Str.ofString "h1 line") t2].toArray)[((named : Nat) : Int).toNat]? = some (.str (nameOf named) u) := by
  match named, hn with
  | 0, _ => exact ⟨t1, rfl⟩
  | 1, _ => exact ⟨t2, rfl⟩
set_option exponentiation.threshold 4000 in
theorem small_log {a : Nat} (h : a ≤ 1000) : ((a : Nat) : Int).natAbs.log2 < 1920 := by
  rw [Int.natAbs_natCast]
  by_cases h0 : a = 0
  · subst h0; decide
  · rw [Nat.log2_lt h0]
    exact Nat.lt_of_le_of_lt h (Nat.lt_of_lt_of_le (by decide : 1000 < 2 ^ 10) (Nat.pow_le_pow_right (by decide : 2 > 0) (by decide : 10 ≤ 1920)))
section
variable {prog : Program} {w : World} {A : Around} {E : Value → Shared → Prop} {s : Shared} {B h : Heap} {f L Df Ds : Addr} {g : Array GenState} {d : Drawn} {tk : Nat} {os : OsState} {cd : Value} {m : Str → Option Value}

set_option maxHeartbeats 8000000 in
theorem turn9 {as : List Int} {k : Nat} {vf vs : List Value} {nf ns' : Nat} {kr kl kk : Tok} (C : Ctx B L) (hfr : A.frames = some [envL L f cd]) (hh : A.handled = none) (hroom : A.depth < recursionLimit) (hu : A.units + 64 < cLine)
    (F : Fr B L h m) (mr : m "row" = some (.str (row9 as) kr)) (ml : m "last" = some (.int ((as.length : Int) - 1) kl)) (mk : m "k" = some (.int (k : Int) kk)) (mf : m "figures" = some (.ref Df)) (ms : m "shown" = some (.ref Ds))
    (hf : h.get? Df = some (listObj vf nf)) (jf : StrsAre vf (as.map fun a => (⟨(fig9 a).toArray⟩ : Str))) (hs : h.get? Ds = some (listObj vs ns')) (js : StrsAre vs (as.map fun a => (⟨(sh9 a).toArray⟩ : Str)))
    (hk : k < as.length) (hn : as.length ≤ 100) :
    wpAny (model prog w) A (execs turnB (envL L f cd)) (fun fl s3 => fl = .next ∧ ∃ m3 h3 tk3, s3 = ⟨h3, g, d, tk3, os⟩ ∧ Fr B L h3 m3 ∧ Kp [L] h h3 ∧
      m3 "row" = m "row" ∧ m3 "last" = m "last" ∧ m3 "figures" = m "figures" ∧ m3 "shown" = m "shown" ∧ m3 "codes" = m "codes") E ⟨h, g, d, tk, os⟩ := by
  have hsl : sizeLine = 16777216 := rfl
  have hb3 : k % 3 < 3 := Nat.mod_lt _ (by decide)
  have z0 : (Str.ofString " (").length = 2 := by decide +kernel
  have z1 : (Str.ofString ") is not valid Latin-1. Use ").length = 28 := by decide +kernel
  have z2 : encodeS.length = 57 := by decide +kernel
  have z2' : (Str.ofString ".encode('utf-8') if you want to send it encoded in UTF-8.").length = 57 := z2
  have z3 : (Str.ofString "characters in position ").length = 23 := by decide +kernel
  have z4 : (Str.ofString "-").length = 1 := by decide +kernel
  have z5 : (Str.ofString "character '").length = 11 := by decide +kernel
  have z6 : (Str.ofString "' in position ").length = 14 := by decide +kernel
  have hp20 := part9S_len as k
  have e3 : (k : Int).fmod 3 = ((k % 3 : Nat) : Int) := by rw [Int.fmod_eq_emod_of_nonneg _ (by decide)]; omega
  have e2 : ((k : Int).fdiv 2).fmod 2 = ((k / 2 % 2 : Nat) : Int) := by rw [Int.fmod_eq_emod_of_nonneg _ (by decide), Int.fdiv_eq_ediv_of_nonneg _ (by decide)]; omega
  obtain ⟨named, hnm⟩ : ∃ n, n = k / 2 % 2 := ⟨_, rfl⟩
  have hn2 : named < 2 := by rw [hnm]; exact Nat.mod_lt _ (by decide)
  have zt : (titleOf9 named).length ≤ 7 ∧ (nameOf named).length ≤ 7 := by
    unfold titleOf9 nameOf; split <;> exact ⟨by decide +kernel, by decide +kernel⟩
  rw [← hnm] at e2
  refine wpAny_execs_cons (wpAny_Assign_Name (wpAny_BinOp (ld F mk (wpAny_Constant_int (mod_int' (by decide) ?_)))))
  dsimp only
  rw [e3]
  refine storeN F (fun h1 F1 K1 => ?_)
  refine wpAny_execs_cons (wpAny_Assign_Name (text9_ev F1 ue (un mr) (un mk) hk hn fun h2 tk2 t2 F2 K2 => ?_))
  refine storeN F2 (fun h3 F3 K3 => ?_)
  refine wpAny_execs_cons (wpAny_Assign_Name (wpAny_BinOp (wpAny_BinOp (ld F3 (un (un mk)) (wpAny_Constant_int (floordiv_int (by decide) ?_))))))
  refine wpAny_Constant_int (mod_int' (by decide) ?_)
  dsimp only
  rw [e2]
  refine storeN F3 (fun h4 F4 K4 => ?_)
  have K04 : Kp [L] h h4 := ((K1.trans (.of_stays K2)).trans K3).trans K4
  have hs4 := K04.get F.ns hs (fun _ _ q => by cases q)
  refine wpAny_execs_cons (wpAny_Assign_Name (part_ev F4 (un (un (un ms))) (un (un (un mk))) hs4 js hk hn fun h5 tk5 t5 F5 K5 => ?_))
  refine storeN F5 (fun h6 F6 K6 => ?_)
  refine wpAny_execs_cons (wpAny_Assign_Name (wpAny_BinOp (wpAny_BinOp (wpAny_BinOp (Subscript_ (List_ (spliced_more (Calls.Constant_str (spliced_more (Calls.Constant_str (spliced_none (wp_newList (by show 2 ≤ sizeLine; omega) ?_)))))))))))) 
  dsimp only
  refine ld (F6.push _) (un ue) (sub_list_str ⟨_, Heap.get?_push_size _ rfl, rfl, _, rfl⟩ (by omega) (by omega) (pick_title named hn2 _ _) fun u7 => ?_)
  generalize hlo : ({ cls := .type "list", data := .seq _ } : Obj) = lobj
  have F7 := F6.push lobj
  refine Calls.Constant_str (PyProof.Rows.add_str (hsz := by omega) fun k7 tk7 => ?_)
  refine ld F7 ue (PyProof.Rows.add_str (hsz := by simp only [Str.length_append]; omega) fun k8 tk8 => ?_)
  refine Calls.Constant_str (PyProof.Rows.add_str (hsz := by simp only [Str.length_append]; omega) fun k9 tk9 => ?_)
  refine storeN F7 (fun h8 F8 K8 => ?_)
  refine wpAny_execs_cons (wpAny_Assign_Name (wpAny_BinOp (wpAny_BinOp (ld F8 ue (Subscript_ (List_ (spliced_more (Calls.Constant_str (spliced_more (Calls.Constant_str (spliced_none (wp_newList (by show 2 ≤ sizeLine; omega) ?_))))))))))))
  dsimp only
  refine ld (F8.push _) (un (un ue)) (sub_list_str ⟨_, Heap.get?_push_size _ rfl, rfl, _, rfl⟩ (by omega) (by omega) (pick_name named hn2 _ _) fun u9 => ?_)
  generalize hlo2 : ({ cls := .type "list", data := .seq _ } : Obj) = lobj2
  have F9 := F8.push lobj2
  refine PyProof.Rows.add_str (hsz := by simp only [Str.length_append]; omega) fun k10 tk10 => ?_
  refine Calls.Constant_str (PyProof.Rows.add_str (hsz := by simp only [Str.length_append]; omega) fun k11 tk11 => ?_)
  refine storeN F9 (fun h10 F10 K10 => ?_)
  have K010 : Kp [L] h h10 := (((K04.trans (.of_stays K5)).trans K6).trans ((Kp.of_stays fun b o e => Heap.get?_push_of_some _ e).trans K8)).trans ((Kp.of_stays fun b o e => Heap.get?_push_of_some _ e).trans K10)
  generalize hm10 : (fun z => if z = Str.ofString "words" then _ else _ : Str → Option Value) = m10 at F10
  have g10 : ∀ y : Str, y ≠ "words" → y ≠ "part" → y ≠ "named" → y ≠ "text" → y ≠ "front" → m10 y = m y := fun y n1 n2 n3 n4 n5 => by
    rw [← hm10]; exact (if_neg n1).trans ((if_neg n1).trans ((if_neg n2).trans ((if_neg n3).trans ((if_neg n4).trans (if_neg n5)))))
  have gw : m10 "words" = some (.str (words9 as k named) k11) := by rw [← hm10]; exact ue
  have gf : ∃ t, m10 "front" = some (.int ((k % 3 : Nat) : Int) t) := ⟨_, by rw [← hm10]; exact un (un (un (un (un ue))))⟩
  have gt : ∃ t, m10 "text" = some (.str (data9 as k) t) := ⟨_, by rw [← hm10]; exact un (un (un (un ue)))⟩
  have gn : ∃ t, m10 "named" = some (.int (named : Int) t) := ⟨_, by rw [← hm10]; exact un (un (un ue))⟩
  clear hm10 hlo hlo2
  obtain ⟨tf, gf⟩ := gf
  obtain ⟨tt, gt⟩ := gt
  obtain ⟨tn, gn⟩ := gn
  have gl := (g10 "last" (by decide) (by decide) (by decide) (by decide) (by decide)).trans ml
  have gk := (g10 "k" (by decide) (by decide) (by decide) (by decide) (by decide)).trans mk
  have gfig := (g10 "figures" (by decide) (by decide) (by decide) (by decide) (by decide)).trans mf
  have hfin : ∀ {m' : Str → Option Value} {h' : Heap} {fl : Flow} {s' : Shared}, (∀ y : Str, y ≠ "where" → m' y = m10 y) → Kp [L] h10 h' → (fl = .next ∧ ∃ m3 h3 tk3, s' = (⟨h3, g, d, tk3, os⟩ : Shared) ∧ Fr B L h3 m3 ∧ Kp [L] h' h3 ∧ ∀ y : Str, y ≠ "args" → y ≠ "err" → m3 y = m' y) →
      fl = .next ∧ ∃ m3 h3 tk3, s' = (⟨h3, g, d, tk3, os⟩ : Shared) ∧ Fr B L h3 m3 ∧ Kp [L] h h3 ∧ m3 "row" = m "row" ∧ m3 "last" = m "last" ∧ m3 "figures" = m "figures" ∧ m3 "shown" = m "shown" ∧ m3 "codes" = m "codes" := by
    rintro m' h' fl s' hm' Kh ⟨rfl, m3, h3, tk3, rfl, F3, K3, hy⟩
    have gg : ∀ y : Str, y ≠ "args" → y ≠ "err" → y ≠ "where" → y ≠ "words" → y ≠ "part" → y ≠ "named" → y ≠ "text" → y ≠ "front" → m3 y = m y := fun y n1 n2 n3 n4 n5 n6 n7 n8 => (hy y n1 n2).trans ((hm' y n3).trans (g10 y n4 n5 n6 n7 n8))
    exact ⟨rfl, m3, h3, tk3, rfl, F3, (K010.trans Kh).trans K3, gg _ (by decide) (by decide) (by decide) (by decide) (by decide) (by decide) (by decide) (by decide), gg _ (by decide) (by decide) (by decide) (by decide) (by decide) (by decide) (by decide) (by decide),
      gg _ (by decide) (by decide) (by decide) (by decide) (by decide) (by decide) (by decide) (by decide), gg _ (by decide) (by decide) (by decide) (by decide) (by decide) (by decide) (by decide) (by decide), gg _ (by decide) (by decide) (by decide) (by decide) (by decide) (by decide) (by decide) (by decide)⟩
  have l1 := PyProof.Rows.len_str_of_int ((k % 3 : Nat) : Int)
  have l2 := PyProof.Rows.len_str_of_int (((k % 3 + (as.length - 1) - k : Nat)) : Int)
  rw [Int.natAbs_natCast] at l1 l2
  refine wpAny_execs_cons (wpAny_Assign_Name (wpAny_BinOp (wpAny_BinOp (wpAny_BinOp (Calls.Constant_str ?_)))))
  refine Call_ (ld_global C.gstr F10.keep (PyProof.Rows.callWith_type1 (spliced_more (ld F10 gf (spliced_none (PySem.P.str_of_int (small_log (by omega)) ?_))))))
  refine PyProof.Rows.add_str (hsz := by omega) fun k12 tk12 => ?_
  refine Calls.Constant_str (PyProof.Rows.add_str (hsz := by simp only [Str.length_append]; omega) fun k13 tk13 => ?_)
  refine Call_ (ld_global C.gstr F10.keep (PyProof.Rows.callWith_type1 (spliced_more (wpAny_BinOp (wpAny_BinOp (ld F10 gf (ld F10 gl (add_int ?_))))))))
  refine ld F10 gk (sub_int (spliced_none ?_))
  have ed : ((k % 3 : Nat) : Int) + ((as.length : Int) - 1) - (k : Int) = ((k % 3 + (as.length - 1) - k : Nat) : Int) := by omega
  rw [ed]
  refine PySem.P.str_of_int (small_log (by omega)) ?_
  refine PyProof.Rows.add_str (hsz := by simp only [Str.length_append]; omega) fun k14 tk14 => ?_
  dsimp only
  refine storeN F10 (fun h11 F11 K11 => ?_)
  refine wpAny_execs_cons (wpAny_If (wpAny_isTrue_Compare1 (ld F11 (un gk) (ld F11 (un gl) (eq_int (wpAny_truthy_bool ?_))))))
  by_cases hlast : k + 1 = as.length
  · rw [if_pos (by simp; omega)]
    have hf11 := (K010.trans K11).get F.ns hf (fun _ _ q => by cases q)
    have hgd : (as.map fun a => (⟨(fig9 a).toArray⟩ : Str))[k]? = some ⟨(fig9 (as.getD k 0)).toArray⟩ := by
      rw [List.getElem?_map, List.getElem?_eq_getElem hk]
      simp [hk]
    obtain ⟨tg, hg⟩ := strs_get jf hgd
    have hfl := fig9_len (as.getD k 0)
    have hfl2 := S9_len (fig9 (as.getD k 0))
    refine wpAny_execs_cons (wpAny_Assign_Name (wpAny_BinOp (wpAny_BinOp (wpAny_BinOp (Calls.Constant_str (Subscript_ (ld F11 (un gfig) (ld F11 (un gk) ?_))))))))
    refine sub_list_str (M := S9 (fig9 (as.getD k 0))) ⟨_, hf11, rfl, _, rfl⟩ (by omega) (by omega) ⟨tg, by rw [Int.toNat_natCast, List.getElem?_toArray]; exact hg⟩ fun u12 => ?_
    refine PyProof.Rows.add_str (hsz := by omega) fun k15 tk15 => ?_
    refine Calls.Constant_str (PyProof.Rows.add_str (hsz := by simp only [Str.length_append]; omega) fun k16 tk16 => ?_)
    refine Call_ (ld_global C.gstr F11.keep (PyProof.Rows.callWith_type1 (spliced_more (ld F11 (un gf) (spliced_none (PySem.P.str_of_int (small_log (by omega)) ?_))))))
    refine PyProof.Rows.add_str (hsz := by simp only [Str.length_append]; omega) fun k17 tk17 => ?_
    dsimp only
    refine storeN F11 (fun h12 F12 K12 => wpAny_execs_nil ?_)
    dsimp only
    refine wpAny_mono (turn_tail (as := as) (k := k) (named := named) C hfr hh hroom hu F12 (un (un gt)) (un (un gn)) (un (un gf)) (un (un gl)) (un (un gk)) ue (un (un gw)) ?_ ?_ hk hn) (fun fl s3 hs => hfin (fun y ny => (if_neg ny).trans (if_neg ny)) (K11.trans K12) hs) fun _ _ q => q
    · unfold where9
      rw [if_pos hlast]
      simp only [app_list, S9_list]
    · simp only [Str.length_append]; omega
  · rw [if_neg (by simp; omega)]
    refine wpAny_execs_nil ?_
    dsimp only
    refine wpAny_mono (turn_tail (as := as) (k := k) (named := named) C hfr hh hroom hu F11 (un gt) (un gn) (un gf) (un gl) (un gk) ue (un gw) ?_ ?_ hk hn) (fun fl s3 hs => hfin (fun y ny => if_neg ny) K11 hs) fun _ _ q => q
    · unfold where9
      rw [if_neg hlast]
      simp only [app_list]
    · simp only [Str.length_append]; omega
end
end Mine
end
section
open PySem PySem.W PyProof.Rows
open PySem.Builtin PySem.Builtin.Str
namespace Mine

def callArg : PySem.Expr → PySem.Expr
  | .Call _ [e] _ _ => e
  | _ => .Constant .none 0 ⟨0, 0, 0, 0⟩
def lastE : PySem.Expr := callArg (valueOf (nth lawBody 7))
def small9 (as : List Int) : Str := ⟨(as.map fun a => code9 a % 256).toArray⟩
theorem small9_list (as : List Int) : (small9 as).cps.toList = as.map fun a => code9 a % 256 := by simp [small9]
theorem small9_lo (as : List Int) : loS (small9 as) = (small9 as).cps.toList.length := by
  show lo _ = _
  rw [small9_list]
  exact lo_small fun c hc => by obtain ⟨a, _, rfl⟩ := List.mem_map.mp hc; exact Nat.mod_lt _ (by decide)
theorem small9_fine {as : List Int} (hn : as.length ≤ 100) : Fine (small9 as) := by
  refine ⟨?_, fun c hc => ?_⟩
  · show ((as.map fun a => code9 a % 256).toArray).size ≤ _
    rw [List.size_toArray, List.length_map]; omega
  · rw [small9_list] at hc
    obtain ⟨a, _, rfl⟩ := List.mem_map.mp hc
    have h16 : (16 : Nat) ^ 8 = 4294967296 := by decide
    have : code9 a % 256 < 256 := Nat.mod_lt _ (by decide)
    omega
theorem small9_octs (as : List Int) : octs (small9 as) = byteArr (as.map fun a => ((code9 a % 256 : Nat) : Int)) := by
  unfold octs byteArr
  rw [small9_list, List.map_map, List.map_map]
  congr 1
theorem strs_chrg (gg : Nat → Nat) : ∀ {vs ys : List Value} {ns : List Nat}, Paired (fun (v y : Value) => ∃ (c : Nat) (t u : Tok), v = .int (c : Int) t ∧ y = .str ⟨#[gg c]⟩ u) vs ys → IntsAre vs (ns.map fun (c : Nat) => Int.ofNat c) → StrsAre ys (ns.map fun c => (⟨#[gg c]⟩ : Str))
  | _, _, [], .nil, h => .nil
  | _, _, c :: r, .cons hab hr, h => by
    cases h with
    | cons i t hi =>
      obtain ⟨c', t', u, e1, rfl⟩ := hab
      have e2 : c = c' := by injection e1 with e _; exact Int.ofNat.inj e
      subst e2
      exact .cons _ _ (strs_chrg gg hr hi)
  | _, _, [], .cons _ _, h => nomatch h
  | _, _, _ :: _, .nil, h => nomatch h
theorem ints_modg (gg : Nat → Nat) : ∀ {vs ys : List Value} {ns : List Nat}, Paired (fun (v y : Value) => ∃ (c : Nat) (t u : Tok), v = .int (c : Int) t ∧ y = .int ((gg c : Nat) : Int) u) vs ys → IntsAre vs (ns.map fun (c : Nat) => Int.ofNat c) → IntsAre ys (ns.map fun c => ((gg c : Nat) : Int))
  | _, _, [], .nil, h => .nil
  | _, _, c :: r, .cons hab hr, h => by
    cases h with
    | cons i t hi =>
      obtain ⟨c', t', u, e1, rfl⟩ := hab
      have e2 : c = c' := by injection e1 with e _; exact Int.ofNat.inj e
      subst e2
      exact .cons _ _ (ints_modg gg hr hi)
  | _, _, [], .cons _ _, h => nomatch h
  | _, _, _ :: _, .nil, h => nomatch h

section
variable {prog : Program} {w : World} {A : Around} {E : Value → Shared → Prop} {s : Shared} {B h : Heap} {g : Array GenState} {d : Drawn} {tk : Nat} {os : OsState} {L f l D : Addr} {cd : Value} {m : Str → Option Value}

theorem is_type_same {X : String} {Q : Value → Shared → Prop} (h : Q (.bool true) s) : wpAny (model prog w) A (compareOp .Is (.type X) (.type X)) Q E s := by
  have e : (Value.type X == Value.type X) = true := by simp
  exact wpAny_pure (a := Value.bool (Value.type X == Value.type X)) (by rw [e]; exact h)
theorem mod256 (c : Nat) : ((c : Int).fmod 256) = ((c % 256 : Nat) : Int) := by rw [Int.fmod_eq_emod_of_nonneg _ (by decide)]; omega

theorem last_ev {Q : Value → Shared → Prop} {vc : List Value} {n : Nat} {as : List Int} (C : Ctx B L) (hh : A.handled = none) (F : Fr B L s.heap m) (hm : m "codes" = some (.ref D)) (hD : s.heap.get? D = some (listObj vc n))
    (hI : IntsAre vc (as.map fun a => (code9 a : Int))) (hn : as.length ≤ 100) (hq : ∀ h' tk k, s.heap.StaysIn h' → Q (.str (small9 as) k) { s with heap := h', toks := tk }) :
    wpAny (model prog w) A (eval lastE (envL L f cd)) Q E s := by
  have hsl : sizeLine = 16777216 := rfl
  have hI2 : IntsAre vc ((as.map code9).map fun (c : Nat) => Int.ofNat c) := by rw [List.map_map]; exact hI
  have hvl := hI.length
  rw [List.length_map] at hvl
  refine MethodCall_ (Calls.Constant_str (GM.join (callWith_method1 (spliced_more ?_))))
  refine wpAny_ListComp_map (fun _ => true) (fun (v y : Value) => ∃ (c : Nat) (t u : Tok), v = .int (c : Int) t ∧ y = .str ⟨#[c % 256]⟩ u) hh (by decide) (by decide) rfl (by decide) rfl ?_
  refine ld F hm ⟨D, vc.toArray, rfl, ⟨_, hD, rfl, _, rfl⟩, ?_, ?_, ?_, ?_⟩
  · rw [List.size_toArray]; omega
  · intro C' v s2 m2 E' hv hn2 hm2 hk2
    exact wpAny_pure ⟨rfl, s2.heap, s2.toks, rfl, fun _ _ e => e⟩
  · intro C' v s2 m2 E' hv hpv hn2 hm2 hk2
    obtain ⟨c, t, hc, rfl⟩ := mem_nat hI2 (by simpa using hv)
    obtain ⟨a, _, rfl⟩ := List.mem_map.mp hc
    have hcl : code9 a % 256 < 256 := Nat.mod_lt _ (by decide)
    have bs2 : B.StaysIn s2.heap := fun b o e => hk2 b o (F.keep b o e)
    refine Call_ (ld_global C.gchr bs2 (PyProof.Rows.callWith_builtin1 (spliced_more (wpAny_BinOp (wpAny_Name (wpAny_loadName_local rfl rfl hn2 hm2 (wpAny_Constant_int (mod_int' (by decide) ?_))) (by decide))))))
    dsimp only
    rw [mod256]
    refine spliced_none (chr_of_range (by omega) (by omega) ?_)
    exact ⟨⟨code9 a, _, _, rfl, by rw [Int.toNat_natCast]⟩, s2.heap, _, rfl, fun _ _ e => e⟩
  · intro D' h' tk ys hD' hys hp hk
    have hst : StrsAre ys.toList ((as.map code9).map fun c => (⟨#[c % 256]⟩ : Str)) := strs_chrg (· % 256) (by rw [show vc.toArray.toList.filter (fun _ => true) = vc from List.filter_eq_self.mpr fun _ _ => rfl] at hp; exact hp) hI2
    have e0 : (as.map code9).map (fun c => (⟨#[c % 256]⟩ : Str)) = (as.map fun a => code9 a % 256).map fun c => (⟨#[c]⟩ : Str) := by rw [List.map_map, List.map_map]; rfl
    rw [e0] at hst
    refine spliced_none (join_listC hys hst (by decide +kernel) ?_ fun k2 tk2 => ?_)
    · have e2 := ones_sum (as.map fun a => code9 a % 256)
      rw [List.length_map] at e2 ⊢
      rw [List.length_map]
      omega
    · have e3 : Txt.join (Str.ofString "") ((as.map fun a => code9 a % 256).map fun c => (⟨#[c]⟩ : Str)) = small9 as := by
        have e4 : Str.ofString "" = ⟨#[]⟩ := by decide +kernel
        rw [e4]
        show Builtin.Str.glued _ _ = _
        rw [StrLaws.glued_eq_join]
        exact join_ones _
      rw [e3]
      exact hq _ _ _ (fun b o e => hk b o e)

theorem law_end {vc : List Value} {n : Nat} {as : List Int} (C : Ctx B L) (hfr : A.frames = some [envL L f cd]) (hh : A.handled = none) (hroom : A.depth < recursionLimit) (F : Fr B L h m) (hm : m "codes" = some (.ref D)) (hD : h.get? D = some (listObj vc n))
    (hI : IntsAre vc (as.map fun a => (code9 a : Int))) (hn : as.length ≤ 100) :
    wpAny (model prog w) A (execs (lawBody.drop 7) (envL L f cd)) (fun fl s3 => fl = .ret (.bool true) ∧ ∃ h3 tk3, s3 = ⟨h3, g, d, tk3, os⟩ ∧ B.StaysIn h3) E ⟨h, g, d, tk, os⟩ := by
  have hsl : sizeLine = 16777216 := rfl
  have hI2 : IntsAre vc ((as.map code9).map fun (c : Nat) => Int.ofNat c) := by rw [List.map_map]; exact hI
  have hvl := hI.length
  rw [List.length_map] at hvl
  obtain ⟨fe, hfe, ge⟩ := C.fn
  obtain ⟨oE, oT, T0, kV, doc, pm, cdv, ct, an, kt0, hoE, hdE, _⟩ := id hfe
  refine wpAny_execs_cons (wpAny_Assign_Name (Call_ (ld_global ge F.keep (callWith_def hdE (spliced_more (last_ev C hh F hm hD hI hn fun h1 tk1 k1 K1 => spliced_none ?_))))))
  have F1 : Fr B L h1 m := ⟨F.ns.keeps K1, fun b o e => K1 b o (F.keep b o e), F.above⟩
  refine ⟨F1.keep _ _ hoE, wpAny_call (call_enc1 C hfe hfr hh hroom F1 (small9_fine hn) (fun hlo h2 tk2 kb F2 K2 => ?_) (fun hlo => absurd hlo (by rw [small9_lo]; omega)))⟩
  have hD2 := K2.get F1.ns (K1 _ _ hD) (fun _ _ q => by cases q)
  refine storeN F2 (fun h3 F3 K3 => ?_)
  have hD3 := K3.get F2.ns hD2 (fun _ _ q => by cases q)
  refine wpAny_execs_cons (wpAny_Return_some (BoolOp_and (wpAny_Compare1 (type_ev C F3 ue (PySem.W.typeIs_bytes _ _ _) (by decide) (ld_global C.gbytes F3.keep (is_type_same (wpAny_truthy_bool ?_)))))))
  rw [if_pos rfl]
  refine BoolOp_one (wpAny_Compare1 (ld F3 ue ?_))
  refine Call_ (ld_global C.gbytes F3.keep (PyProof.Rows.callWith_type1 (spliced_more ?_)))
  refine wpAny_ListComp_map (fun _ => true) (fun (v y : Value) => ∃ (c : Nat) (t u : Tok), v = .int (c : Int) t ∧ y = .int ((c % 256 : Nat) : Int) u) hh (by decide) (by decide) rfl (by decide) rfl ?_
  refine ld F3 (un hm) ⟨D, vc.toArray, rfl, ⟨_, hD3, rfl, _, rfl⟩, ?_, ?_, ?_, ?_⟩
  · rw [List.size_toArray]; omega
  · intro C' v s2 m2 E' hv hn2 hm2 hk2
    exact wpAny_pure ⟨rfl, s2.heap, s2.toks, rfl, fun _ _ e => e⟩
  · intro C' v s2 m2 E' hv hpv hn2 hm2 hk2
    obtain ⟨c, t, hc, rfl⟩ := mem_nat hI2 (by simpa using hv)
    refine wpAny_BinOp (wpAny_Name (wpAny_loadName_local rfl rfl hn2 hm2 (wpAny_Constant_int (mod_int' (by decide) ?_))) (by decide))
    dsimp only
    rw [mod256]
    exact ⟨⟨c, _, _, rfl, rfl⟩, s2.heap, _, rfl, fun _ _ e => e⟩
  · intro D' h' tk ys hD' hys hp hk
    have hst : IntsAre ys.toList ((as.map code9).map fun c => ((c % 256 : Nat) : Int)) := ints_modg (· % 256) (by rw [show vc.toArray.toList.filter (fun _ => true) = vc from List.filter_eq_self.mpr fun _ _ => rfl] at hp; exact hp) hI2
    rw [List.map_map] at hst
    have hst' : IntsAre ys.toList (as.map fun a => ((code9 a % 256 : Nat) : Int)) := hst
    have hyl := hst'.length
    rw [List.length_map] at hyl
    refine spliced_none (PySem.call_bytes_ints (vs := ys.toList) (by rw [Array.toArray_toList]; exact hys) hst' (fun n hn => ?_) (by omega) hh fun h5 t5 k5 K5 => ?_)
    · obtain ⟨a, _, rfl⟩ := List.mem_map.mp hn
      have : code9 a % 256 < 256 := Nat.mod_lt _ (by decide)
      omega
    · refine eq_bytes ?_
      rw [small9_octs]
      simp only [beq_self_eq_true]
      exact ⟨trivial, h5, _, rfl, fun b o e => K5 b o (hk b o (F3.keep b o e))⟩
end
end Mine
end
section
open PySem PySem.W PyProof.Rows
open PySem.Builtin PySem.Builtin.Str
namespace Mine

section
variable {prog : Program} {w : World} {A : Around} {E : Value → Shared → Prop} {B h : Heap} {g : Array GenState} {d : Drawn} {tk : Nat} {os : OsState} {L f l : Addr} {cd : Value} {m : Str → Option Value}

theorem law_body (C : Ctx B L) (hfr : A.frames = some [envL L f cd]) (hh : A.handled = none) (hroom : A.depth < recursionLimit) (hu : A.units + 64 < cLine) {vs : List Value} {ns : List Int}
    (F : Fr B L h m) (hm : m "script" = some (.ref l)) (hl : B.IsList l vs.toArray) (hI : IntsAre vs ns) (hn : ns.length ≤ 63) :
    wpAny (model prog w) A (execs lawBody (envL L f cd)) (fun fl s3 => fl = .ret (.bool true) ∧ ∃ h3 tk3, s3 = ⟨h3, g, d, tk3, os⟩ ∧ B.StaysIn h3) E ⟨h, g, d, tk, os⟩ := by
  have hsl : sizeLine = 16777216 := rfl
  refine first_loop C hfr hh hroom F hm hl hI hn fun h1 m1 tk1 Dc Df Ds F1 Ac m1c m1f m1s => ?_
  have hn68 : (all9 ns).length ≤ 100 := by simp [all9]; omega
  have hpos : 0 < (all9 ns).length := by simp [all9]
  obtain ⟨as, has⟩ : ∃ as, as = all9 ns := ⟨_, rfl⟩
  rw [← has] at Ac hn68 hpos
  obtain ⟨vc, vf, vs', nc, nf, ns', hc, ic, hf, jf, hs, js⟩ := Ac.ex
  have hrl := row9_len as
  refine wpAny_execs_cons (wpAny_Assign_Name (row_ev (s := ⟨h1, g, d, tk1, os⟩) C hh F1 m1c hc ic hn68 fun h2 tk2 k2 K2 => ?_))
  have F2 : Fr B L h2 m1 := ⟨F1.ns.keeps K2, fun b o e => K2 b o (F1.keep b o e), F1.above⟩
  dsimp only
  refine storeN F2 (fun h3 F3 K3 => ?_)
  refine wpAny_execs_cons (wpAny_Assign_Name (wpAny_BinOp (Call_ (ld_global C.glen F3.keep (PyProof.Rows.callWith_builtin1 (spliced_more (ld F3 ue (spliced_none (PyProof.Rows.len_str (by omega) ?_)))))))))
  refine wpAny_Constant_int (sub_int ?_)
  dsimp only
  rw [hrl]
  refine storeN F3 (fun h4 F4 K4 => ?_)
  have K14 : Kp [L] h1 h4 := ((Kp.of_stays K2).trans K3).trans K4
  have hc4 := K14.get F1.ns hc (fun _ _ q => by cases q)
  have hf4 := K14.get F1.ns hf (fun _ _ q => by cases q)
  have hs4 := K14.get F1.ns hs (fun _ _ q => by cases q)
  refine wpAny_execs_cons (wpAny_For ?_)
  refine Call_ (ld_global C.grange F4.keep (PyProof.Rows.callWith_type1 (spliced_more ?_)))
  refine Call_ (ld_global C.glen F4.keep (PyProof.Rows.callWith_builtin1 (spliced_more (ld F4 (un ue) (spliced_none (PyProof.Rows.len_str (by omega) ?_))))))
  refine spliced_none (call_range_1 ?_)
  dsimp only
  refine wpAny_pyIter_range (IsRange.new _ _ _ _ _ _ _) (small_one (by omega) (by omega) (by omega) (by omega)) ?_
  dsimp only
  have hrs : Builtin.Range.rangeSize 0 ((row9 as).length : Int) 1 = ((as.length : Nat) : Int) := by rw [rangeSize_one, if_pos (by omega), hrl]; omega
  rw [hrs]
  generalize hro : ({ cls := .type "range", data := .fields _ } : Obj) = robj
  generalize hio : ({ cls := .type "range_iterator", data := .fields _ } : Obj) = iobj
  have F8 := (F4.push robj).push iobj
  have hi3 := Heap.get?_push_size (h4.push robj) (o := iobj) (by rw [← hio]; rfl)
  have hnew : h4.get? (h4.push robj).objs.size = none := Heap.get?_none_of_le (by rw [Heap.size_push]; omega)
  have hBI := fresh_B F4 hnew
  have hIL : (h4.push robj).objs.size ≠ L := fun q => by obtain ⟨o, es, ep, ho, _⟩ := F4.ns; rw [← q, hnew] at ho; cases ho
  have nI : ∀ {p : Addr} {o : Obj}, h4.get? p = some o → p ≠ (h4.push robj).objs.size := fun e q => by rw [q, hnew] at e; cases e
  have K48 : ∀ {p : Addr} {o : Obj}, h4.get? p = some o → ((h4.push robj).push iobj).get? p = some o := fun e => Heap.get?_push_of_some _ (Heap.get?_push_of_some _ e)
  have ec := not_frame F4.ns hc4 (fun _ _ q => by cases q)
  have ef := not_frame F4.ns hf4 (fun _ _ q => by cases q)
  have es := not_frame F4.ns hs4 (fun _ _ q => by cases q)
  refine for_law (ws := []) (Walks.range (prog := prog) (w := w) (A := A) hh (h4.push robj).objs.size 0 1 as.length) (L := L) (B := B) (h0 := (h4.push robj).push iobj)
    (fun q => hIL (List.mem_singleton.mp q).symm) (fun q => hIL (List.mem_singleton.mp q).symm) (fun b hb => by rw [List.mem_singleton.mp hb]; exact hBI) (fun b hb => nomatch hb) C.bl rfl rfl rfl
    (fun i m' h' => (∃ t, m' "row" = some (.str (row9 as) t)) ∧ (∃ t, m' "last" = some (.int ((as.length : Int) - 1) t)) ∧ m' "figures" = some (.ref Df) ∧ m' "shown" = some (.ref Ds) ∧ m' "codes" = some (.ref Dc) ∧
      h'.get? Dc = some (listObj vc nc) ∧ h'.get? Df = some (listObj vf nf) ∧ h'.get? Ds = some (listObj vs' ns')) ?_ F8 ?_ ⟨⟨_, un ue⟩, ⟨_, ue⟩, un (un m1f), un (un m1s), un (un m1c), K48 hc4, K48 hf4, K48 hs4⟩ ?_ ?_
  · rintro i m' ha hb ⟨j1, j2, j3, j4, j5, a1, a2, a3⟩ K
    have kk : ∀ {p : Addr} {o : Obj}, p ≠ L → p ≠ (h4.push robj).objs.size → ha.get? p = some o → hb.get? p = some o := fun n1 n2 e => K _ _ e fun q => by
      rcases List.mem_cons.mp q with q | q
      · exact n1 q
      · exact n2 (List.mem_singleton.mp q)
    exact ⟨j1, j2, j3, j4, j5, kk ec (nI hc4) a1, kk ef (nI hf4) a2, kk es (nI hs4) a3⟩
  · show IsRangeIter ((h4.push robj).push iobj) (h4.push robj).objs.size _ _ _
    have e1 : (0 + (((0 : Nat) : Int)) * 1) = 0 := by decide
    have e2 : (((as.length : Nat) : Int) - ((0 : Nat) : Int)) = ((as.length : Nat) : Int) := by omega
    rw [← hio] at hi3
    rw [e1, e2, ← hio]
    exact hi3
  · rintro i m5 h9 tk9 v E' hi ⟨⟨t1, j1⟩, ⟨t2, j2⟩, j3, j4, j5, a1, a2, a3⟩ ⟨tv, rfl⟩ F9 K9
    have ev : ((0 : Int) + (i : Int) * 1) = ((i : Nat) : Int) := by omega
    rw [ev] at F9
    refine wpAny_mono (turn9 (as := as) (k := i) C hfr hh hroom hu F9 (un j1) (un j2) ue (un j3) (un j4) a2 jf a3 js hi hn68) (fun fl s3 hs => ?_) fun _ _ q => q
    obtain ⟨rfl, m3, h3, tk3, rfl, F10, K10, x1, x2, x3, x4, x5⟩ := hs
    have b1 := K10.get F9.ns a1 (fun _ _ q => by cases q)
    have b2 := K10.get F9.ns a2 (fun _ _ q => by cases q)
    have b3 := K10.get F9.ns a3 (fun _ _ q => by cases q)
    exact ⟨rfl, m3, h3, tk3, rfl, F10, K10, ⟨t1, x1.trans (un j1)⟩, ⟨t2, x2.trans (un j2)⟩, x3.trans (un j3), x4.trans (un j4), x5.trans (un j5), b1, b2, b3⟩
  · rintro m6 h6 tk6 ⟨_, _, _, _, j5, a1, _, _⟩ F6 K6
    exact law_end C hfr hh hroom F6 j5 a1 ic hn68
end

theorem ctx_of {B : Heap} {mg mb : Str → Option Value} (g : B.Ns mainGlobals mg) (b : B.Ns builtinsNs mb) (lim : B.NoLimit) (bu : ∀ x : Str, x ≠ "__name__" → mb x = bootBuiltins x)
    {es : Array DictEntry} {ep : Nat} {cls : Value} {dd : Option Addr} {sl : Array (Option Value)} (h3 : B.get? 3 = some ⟨cls, dd, .dict es ep, sl⟩) {fe ft : Addr}
    (e1 : nsFind es "_encode" = some (.ref fe)) (e2 : nsFind es "_law_hex" = some (.ref ft))
    (n1 : nsFind es "UnicodeEncodeError" = none) (n2 : nsFind es "chr" = none) (n3 : nsFind es "str" = none) (n4 : nsFind es "len" = none) (n5 : nsFind es "range" = none) (n6 : nsFind es "type" = none) (n7 : nsFind es "bytes" = none)
    (hf : EncFn B fe) (ht : FnIs B ft (Str.ofString "_law_hex") (stmt9 3)) : Ctx B B.objs.size := by
  have gv : ∀ x, nsFind es x = mg x := by
    obtain ⟨o, es', ep', ho, hd, _, hf⟩ := g
    rw [show mainGlobals = 3 from rfl, h3] at ho
    cases ho
    cases hd
    exact hf
  have bi : ∀ (x : Str) (v : Value), nsFind es x = none → bootBuiltins x = some v → x ≠ "__name__" → GlobalIs B x v := fun x v h1 h2 h3 =>
    ⟨mg, mb, g, b, .inr ⟨(gv x).symm.trans h1, (bu x h3).trans h2⟩⟩
  have gi : ∀ (x : Str) (v : Value), nsFind es x = some v → GlobalIs B x v := fun x v h1 => ⟨mg, mb, g, b, .inl ((gv x).symm.trans h1)⟩
  exact { bl := Heap.get?_none_of_le (Nat.le_refl _), lim := lim, names := ⟨mg, mb, g, (gv _).symm.trans n1, b, (bu _ (by decide)).trans (by decide +kernel)⟩,
          fn := ⟨fe, hf, gi _ _ e1⟩, hex := ⟨ft, ht, gi _ _ e2⟩, gx := bi _ _ n1 (by decide +kernel) (by decide), gchr := bi _ _ n2 (by decide +kernel) (by decide),
          gstr := bi _ _ n3 (by decide +kernel) (by decide), glen := bi _ _ n4 (by decide +kernel) (by decide), grange := bi _ _ n5 (by decide +kernel) (by decide), gtype := bi _ _ n6 (by decide +kernel) (by decide), gbytes := bi _ _ n7 (by decide +kernel) (by decide) }
end Mine
end
section
open PySem PySem.W PyProof.Rows
set_option maxHeartbeats 8000000 in
theorem PySem.Challenge.cw_km0023_09_holds : PySem.Challenge.rw_km0023_09.Holds := by
  (w_on; o_law; k_head; (case hw => w_witness2); w_strict (k_go0))
  have T := ‹Top _ _ _ _ _ _›
  have KX := ‹Frag.In _ _›
  have F := ‹Fr _ _ _ _›
  have hL := ‹Heap.IsList _ _ _›
  have hI := ‹IntsAre _ _›
  have hcond := ‹¬ (_ : Int) < _›
  refine wpAny_mono (Mine.law_body (E := fun _ _ => False) ?_ ?_ ?_ ?_ ?_ F rfl hL hI ?_) ?_ fun _ _ x => x.elim
  · exact Mine.ctx_of T.g T.b T.nolimit T.builtins (KX 3 _ rfl) rfl rfl rfl rfl rfl rfl rfl rfl rfl
      ⟨_, _, _, _, _, _, _, _, _, _, KX 22 _ rfl, rfl, ⟨_, _, _, _, rfl, KX 21 _ rfl, rfl, rfl⟩, KX 15 _ rfl, rfl⟩
      ⟨_, _, _, _, _, _, KX 27 _ rfl, rfl, ⟨_, _, _, _, rfl, KX 26 _ rfl, rfl, rfl⟩⟩
  · rfl
  · rfl
  · exact Nat.le_of_ble_eq_true rfl
  · exact Nat.le_of_ble_eq_true rfl
  · omega
  · rintro fl s' ⟨rfl, h3, tk3, rfl, keep⟩
    exact ⟨.inl ⟨_, .bool true, [], rfl, raisesW_false (by wrow_none_raised), .bool true, (by wrow_post), fun _ => ⟨List.nodup_nil, fun a ha => nomatch ha⟩⟩, keep, rfl, ‹_ = #[]›⟩
end
