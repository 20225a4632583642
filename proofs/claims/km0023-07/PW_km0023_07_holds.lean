import PyProof.Rows.All
import Wide.All
import OpenK.AllK
import Wide.FinOn
import Lean
import PySem.Challenge.RW_km0023_07
set_option Elab.async false
set_option maxRecDepth 100000
set_option linter.unusedVariables false
section
open PySem PySem.W PyProof.Rows
open PySem.Builtin._codecs
namespace Mine

def lo (l : List Nat) : Nat := (l.takeWhile (fun c => decide (c < 256))).length
def hi (l : List Nat) : Nat := lo l + ((l.drop (lo l)).takeWhile (fun c => !decide (c < 256))).length

theorem findIdx_getD {p : Nat → Bool} : ∀ l : List Nat, (l.findIdx? p).getD l.length = (l.takeWhile (fun a => !p a)).length
  | [] => rfl
  | a :: l => by
    rw [List.findIdx?_cons, List.takeWhile_cons]
    cases h : p a
    · have := findIdx_getD (p := p) l
      simp only [Bool.not_false, Bool.false_eq_true, if_false, if_true, List.length_cons]
      rw [← this]
      cases l.findIdx? p <;> simp
    · simp

theorem afindIdx_getD {p : Nat → Bool} (a : Array Nat) : (a.findIdx? p).getD a.size = (a.toList.takeWhile (fun c => !p c)).length := by
  obtain ⟨l⟩ := a; rw [← findIdx_getD, List.findIdx?_toArray]; simp

theorem bytes_fold (l : List Nat) (acc : Array UInt8) : l.foldl (fun acc y => acc ++ (latin1Codec.bytesOf y).toArray) acc = acc ++ (l.map (·.toUInt8)).toArray := by
  induction l generalizing acc with
  | nil => simp
  | cons a l ih => rw [List.foldl_cons, ih]; simp [latin1Codec]

theorem bad_eq : latin1Codec.bad = fun c => decide (c ≥ 256) := rfl
theorem nbad_eq : (fun a => !latin1Codec.bad a) = fun c => decide (c < 256) := by funext c; rw [bad_eq]; by_cases h : c < 256 <;> simp [h] <;> omega

theorem nbad_eq2 : (fun a => !!latin1Codec.bad a) = fun c => !decide (c < 256) := by funext c; rw [bad_eq]; by_cases h : c < 256 <;> simp [h] <;> omega

theorem takeWhile_len_le {p : Nat → Bool} (l : List Nat) : (l.takeWhile p).length ≤ l.length := by
  induction l with
  | nil => simp
  | cons a l ih => rw [List.takeWhile_cons]; split <;> simp <;> omega

theorem lo_le (l : List Nat) : lo l ≤ l.length := takeWhile_len_le l

theorem takeWhile_good {p : Nat → Bool} : ∀ (l : List Nat) (i : Nat) (h : i < (l.takeWhile p).length) (h' : i < l.length), p l[i] = true
  | a :: l, i, h, h' => by
    rw [List.takeWhile_cons] at h
    split at h
    · cases i with
      | zero => assumption
      | succ i => exact takeWhile_good l i (by simpa using h) (by simpa using h')
    · simp at h
theorem lo_good (l : List Nat) (i : Nat) (h : i < lo l) (h' : i < l.length) : l[i] < 256 := by
  have := takeWhile_good l i h h'
  simpa using this
theorem takeWhile_stop {p : Nat → Bool} : ∀ (l : List Nat) (h : (l.takeWhile p).length < l.length), p l[(l.takeWhile p).length] = false
  | a :: l, h => by
    by_cases ha : p a = true
    · have h1 : ((a :: l).takeWhile p) = a :: l.takeWhile p := by rw [List.takeWhile_cons, if_pos ha]
      have := takeWhile_stop l (by rw [h1] at h; simpa using h)
      simpa [h1] using this
    · have h1 : ((a :: l).takeWhile p) = [] := by rw [List.takeWhile_cons, if_neg ha]
      simpa [h1] using ha
theorem lo_stop (l : List Nat) (h : lo l < l.length) : ¬ l[lo l] < 256 := by
  have := takeWhile_stop l h
  unfold lo
  simpa using this

theorem enc_narrow {M : Model} {A : Around} {E : Value → Shared → Prop} {s : Shared} {id : String} {self : Value} {x : Str} {Q : Array UInt8 → Shared → Prop}
    (hx : x.length ≤ sizeLine)
    (hok : lo x.cps.toList = x.cps.toList.length → Q (x.cps.toList.map (·.toUInt8)).toArray s)
    (hbad : lo x.cps.toList < x.cps.toList.length → ∀ Q' : PUnit → Shared → Prop, wpAny M A (raiseEncodeFault {} "latin-1" self (lo x.cps.toList) (hi x.cps.toList) "ordinal not in range(256)") Q' E s) :
    wpAny M A (encodeNarrow id latin1Codec none self x) Q E s := by
  unfold encodeNarrow
  simp only [Std.Legacy.Range.forIn_eq_forIn_range']
  refine wpAny_bind ?_
  have hlen : x.cps.toList.length = x.length := Array.length_toList
  refine wpAny_forIn_list _ (fun rest b s' => s' = s ∧ ((b = (0, #[], {}) ∧ rest.length = x.length) ∨
    (b = (lo x.cps.toList, ((x.cps.toList.take (lo x.cps.toList)).map (·.toUInt8)).toArray, {}) ∧ rest.length + 1 = x.length ∧ 0 < lo x.cps.toList))) _ ?_ ?_ _ _ ⟨rfl, .inl ⟨rfl, by simp [Std.Legacy.Range.size]⟩⟩
  · rintro y rest b s' ⟨rfl, hb⟩
    have hlo := lo_le x.cps.toList
    have hgood : ∀ i, i < lo x.cps.toList → ∃ c, x.cps[i]? = some c ∧ c < 256 := fun i hi => by
      have hi' : i < x.cps.toList.length := Nat.lt_of_lt_of_le hi hlo
      refine ⟨x.cps.toList[i], by rw [← Array.getElem?_toList, List.getElem?_eq_getElem hi'], ?_⟩
      exact lo_good _ _ hi hi'
    have hstrict : ((none : Option Str).getD (Str.ofString "strict")).toString = "strict" := by decide +kernel
    have hstop : ∀ i, i ≤ x.cps.size → lo x.cps.toList = i → i + (Array.findIdx? (fun y => !latin1Codec.bad y) (x.cps.extract i)).getD (x.cps.size - i) = hi x.cps.toList := fun i hi e => by
      subst e
      have e1 : x.cps.size - lo x.cps.toList = (x.cps.extract (lo x.cps.toList)).size := by simp
      rw [e1, afindIdx_getD]
      simp only [nbad_eq2, Array.toList_extract]
      unfold Mine.hi
      congr 3
      simp [List.extract_eq_take_drop, List.take_of_length_le]
    have hfault : ∀ {β : Type} (i : Nat) (st : Faults) (f : PUnit → Sem β) (Q' : β → Shared → Prop), i ≤ x.cps.size → i < x.cps.toList.length → lo x.cps.toList = i → st = {} →
        wpAny M A (do
          let r ← raiseEncodeFault st latin1Codec.name self i (i + (Array.findIdx? (fun y => !latin1Codec.bad y) (x.cps.extract i)).getD (x.cps.size - i)) latin1Codec.reason
          f r) Q' E s' := fun i st f Q' h1 h2 h3 h4 => by
      rw [hstop i h1 h3]
      subst h4; subst h3
      exact wpAny_bind (hbad h2 _)
    rcases hb with ⟨rfl, hr⟩ | ⟨rfl, hr, h0⟩
    · dsimp only
      rw [if_neg (by simp)]
      have hpos : 0 < x.cps.size := by have := List.length_cons (a := y) (as := rest); rw [hr] at this; have e : x.length = x.cps.size := rfl; omega
      rw [Array.getElem?_eq_getElem hpos]
      dsimp only
      have hpl : 0 < x.cps.toList.length := by simpa using hpos
      have e0 : x.cps[0] = x.cps.toList[0] := by simp
      by_cases hb : x.cps[0] < 256
      · rw [if_pos (by simp [bad_eq, hb])]
        refine wpAny_pure ⟨rfl, .inr ⟨?_, ?_, ?_⟩⟩
        · have e1 : (Array.findIdx? latin1Codec.bad x.cps.extract).getD x.cps.extract.size = lo x.cps.toList := by
            rw [afindIdx_getD, nbad_eq]; unfold lo; simp
          rw [e1, Nat.zero_add]
          refine congrArg _ (Prod.ext ?_ rfl)
          show Array.foldl _ _ _ = _
          rw [← Array.foldl_toList, bytes_fold]
          simp [List.extract_eq_take_drop]
        · rw [← hr]; rfl
        · rw [e0] at hb
          unfold lo
          cases hl : x.cps.toList with
          | nil => rw [hl] at hpl; simp at hpl
          | cons a l =>
            simp only [hl, List.getElem_cons_zero] at hb
            rw [List.takeWhile_cons, if_pos (by simpa using hb)]; simp
      · rw [if_neg (by simp [bad_eq]; omega)]
        refine wpAny_bind (wpAny_rule ?_)
        rw [hstrict]
        wp_step
        wp_step
        refine hfault 0 _ _ _ (Nat.zero_le _) hpl ?_ rfl
        cases hz : lo x.cps.toList with
        | zero => rfl
        | succ n => exact absurd (lo_good _ 0 (by rw [hz]; omega) hpl) (by rw [← e0]; exact hb)
    · dsimp only
      rw [if_neg (by simp; have : x.length ≤ sizeLine := hx; omega)]
      by_cases hb : lo x.cps.toList < x.cps.toList.length
      · have hst := lo_stop _ hb
        rw [← Array.getElem?_toList, List.getElem?_eq_getElem hb]
        dsimp only
        rw [if_neg (by simp only [bad_eq]; simpa using hst)]
        refine wpAny_bind (wpAny_rule ?_)
        rw [hstrict]
        wp_step
        wp_step
        exact hfault _ _ _ _ hlo hb rfl rfl
      · have he : lo x.cps.toList = x.cps.toList.length := by omega
        rw [← Array.getElem?_toList, List.getElem?_eq_none (by omega)]
        dsimp only
        refine wpAny_pure (wpAny_pure ?_)
        rw [he, List.take_length]
        exact hok he
  · rintro b s' ⟨rfl, hb⟩
    refine wpAny_pure ?_
    have hlo := lo_le x.cps.toList
    rcases hb with ⟨rfl, hr⟩ | ⟨rfl, hr, h0⟩
    · have : x.cps.toList = [] := List.length_eq_zero_iff.mp (by rw [hlen, ← hr]; rfl)
      simpa [this, lo] using hok
    · have he : lo x.cps.toList = x.cps.toList.length := by rw [List.length_nil] at hr; omega
      show Q _ _
      rw [he, List.take_length]
      exact hok he
end Mine
end
section
open PySem PySem.W PyProof.Rows
open PySem.Builtin.UnicodeEncodeError
namespace Mine

structure Up1 (a : Addr) (h h' : Heap) : Prop where
  same : ∀ b, b ≠ a → h'.get? b = h.get? b
  size : h'.objs.size = h.objs.size
theorem Up1.refl (a : Addr) (h : Heap) : Up1 a h h := ⟨fun _ _ => rfl, rfl⟩
theorem Up1.trans {a : Addr} {h₁ h₂ h₃ : Heap} (x : Up1 a h₁ h₂) (y : Up1 a h₂ h₃) : Up1 a h₁ h₃ :=
  ⟨fun b hb => (y.same b hb).trans (x.same b hb), y.size.trans x.size⟩
theorem Up1.update (a : Addr) (h : Heap) (f : Obj → Obj) : Up1 a h (h.update a f) :=
  ⟨fun b hb => Heap.get?_update_other h f (Ne.symm hb), by cases h; simp [Heap.update]⟩

section
variable {M : Model} {A : Around} {E : Value → Shared → Prop} {h : Heap} {g : Array GenState} {d : Drawn} {t : Nat} {os : OsState}

theorem wp_setMembers0 {a : Addr} {cls : Value} {dd : Option Addr} {sl : Array (Option Value)} {v0 v1 v2 v3 v4 v5 : Value} {m : Members} {Q : Unit → Shared → Prop}
    (ho : h.get? a = some ⟨cls, dd, .fields #[v0, v1, v2, v3, v4, v5], sl⟩)
    (hq : ∀ h', Up1 a h h' → h'.get? a = some ⟨cls, dd, .fields #[v0, v1, v2, v3, v4, v5, m.encoding, m.object, rawInt m.start, rawInt m.stop, m.reason], sl⟩ → Q () ⟨h', g, d, t, os⟩) :
    wpAny M A (setMembers (.ref a) m) Q E ⟨h, g, d, t, os⟩ := by
  unfold setMembers
  refine wpAny_updateFields (s := ⟨h, g, d, t, os⟩) ho rfl (hq _ (Up1.update ..) ((Heap.get?_update_self _ ho rfl).trans ?_)) ?_
  · simp [Obj.mapFields]
  · simp [sizeLine]
theorem wp_setMembers {a : Addr} {cls : Value} {dd : Option Addr} {sl : Array (Option Value)} {v0 v1 v2 v3 v4 v5 w0 w1 w2 w3 w4 : Value} {m : Members} {Q : Unit → Shared → Prop}
    (ho : h.get? a = some ⟨cls, dd, .fields #[v0, v1, v2, v3, v4, v5, w0, w1, w2, w3, w4], sl⟩)
    (hq : ∀ h', Up1 a h h' → h'.get? a = some ⟨cls, dd, .fields #[v0, v1, v2, v3, v4, v5, m.encoding, m.object, rawInt m.start, rawInt m.stop, m.reason], sl⟩ → Q () ⟨h', g, d, t, os⟩) :
    wpAny M A (setMembers (.ref a) m) Q E ⟨h, g, d, t, os⟩ := by
  unfold setMembers
  refine wpAny_updateFields (s := ⟨h, g, d, t, os⟩) ho rfl (hq _ (Up1.update ..) ((Heap.get?_update_self _ ho rfl).trans ?_)) ?_
  · simp [Obj.mapFields]
  · simp [sizeLine]

theorem wp_setField {a : Addr} {cls : Value} {dd : Option Addr} {sl : Array (Option Value)} {vs : Array Value} {i : Nat} {x : Value} {Q : Unit → Shared → Prop}
    (ho : h.get? a = some ⟨cls, dd, .fields vs, sl⟩) (hi : i < vs.size)
    (hq : ∀ h', Up1 a h h' → h'.get? a = some ⟨cls, dd, .fields (vs.setIfInBounds i x), sl⟩ → Q () ⟨h', g, d, t, os⟩) :
    wpAny M A (setField (.ref a) i x) Q E ⟨h, g, d, t, os⟩ :=
  wpAny_setField (s := ⟨h, g, d, t, os⟩) ho rfl hi (hq _ (Up1.update ..) (Heap.get?_update_self _ ho rfl))

theorem wp_members0 {a : Addr} {cls : Value} {dd : Option Addr} {sl : Array (Option Value)} {v0 v1 v2 v3 v4 v5 : Value} {Q : Members → Shared → Prop}
    (ho : h.get? a = some ⟨cls, dd, .fields #[v0, v1, v2, v3, v4, v5], sl⟩) (hq : Q {} ⟨h, g, d, t, os⟩) :
    wpAny M A (members (.ref a)) Q E ⟨h, g, d, t, os⟩ := by
  unfold members
  refine wpAny_bind (wpAny_fieldsOf (s := ⟨h, g, d, t, os⟩) ho rfl ?_)
  exact wpAny_pure hq
theorem wp_members {a : Addr} {cls : Value} {dd : Option Addr} {sl : Array (Option Value)} {v0 v1 v2 v3 v4 v5 en ob re : Value} {i j : Int} {ti tj : Tok} {Q : Members → Shared → Prop}
    (ho : h.get? a = some ⟨cls, dd, .fields #[v0, v1, v2, v3, v4, v5, en, ob, .int i ti, .int j tj, re], sl⟩) (hq : Q ⟨en, ob, i, j, re⟩ ⟨h, g, d, t, os⟩) :
    wpAny M A (members (.ref a)) Q E ⟨h, g, d, t, os⟩ := by
  unfold members
  refine wpAny_bind (wpAny_fieldsOf (s := ⟨h, g, d, t, os⟩) ho rfl ?_)
  exact wpAny_pure hq
end

abbrev ueArgs (en ob re : Str) (i j : Int) (t1 t2 t3 t4 t5 : Tok) : List Value := [.str en t1, .str ob t2, .int i t3, .int j t4, .str re t5]
abbrev ueObj (t : Addr) (tb cx ca su : Value) (en ob re : Str) (i j : Int) (t1 t2 t5 : Tok) : Obj :=
  { cls := .type "UnicodeEncodeError", data := .fields #[.ref t, tb, cx, ca, su, .none, .str en t1, .str ob t2, rawInt i, rawInt j, .str re t5] }

structure MadeU (h h' : Heap) (e t : Addr) (en ob re : Str) (i j : Int) (t1 t2 t3 t4 t5 : Tok) : Prop where
  keeps : ∀ b o, h.get? b = some o → h'.get? b = some o
  new : h.get? e = none
  newT : h.get? t = none
  exc : h'.get? e = some (ueObj t .none .none .none (.bool false) en ob re i j t1 t2 t5)
  tup : h'.get? t = some { cls := .type "tuple", data := .seq (ueArgs en ob re i j t1 t2 t3 t4 t5).toArray }

section
variable {M : Model} {A : Around} {E : Value → Shared → Prop} {h : Heap} {g : Array GenState} {d : Drawn} {t : Nat} {os : OsState}

theorem ue_init {e t0 : Addr} {en ob re : Str} {i j : Int} {t1 t2 t3 t4 t5 : Tok} {Q : Fin → Shared → Prop}
    (he : h.get? e = some { cls := .type "UnicodeEncodeError", data := .fields #[.ref t0, .none, .none, .none, .bool false, .none] })
    (hi : 0 ≤ i ∧ i < 2 ^ 63) (hj : 0 ≤ j ∧ j < 2 ^ 63)
    (hq : ∀ h' t', (∀ b o, b ≠ e → h.get? b = some o → h'.get? b = some o) → h.get? t' = none → h'.get? e = some (ueObj t' .none .none .none (.bool false) en ob re i j t1 t2 t5) →
      h'.get? t' = some { cls := .type "tuple", data := .seq (ueArgs en ob re i j t1 t2 t3 t4 t5).toArray } → Q (.done (.ret .none)) ⟨h', g, d, t, os⟩) :
    wpAny M A (Builtin.«UnicodeEncodeError.__init__» ⟨.ref e :: ueArgs en ob re i j t1 t2 t3 t4 t5, []⟩) Q E ⟨h, g, d, t, os⟩ := by
  unfold Builtin.«UnicodeEncodeError.__init__»
  dsimp only
  refine wpAny_bind ?_
  unfold beginInit
  dsimp only
  wp_step
  refine wpAny_bind (wpAny_field (s := ⟨h, g, d, t, os⟩) he rfl (x := .ref t0) rfl ?_)
  refine wpAny_bind (wpAny_newTuple (s := ⟨h, g, d, t, os⟩) ?_ (by simp [ueArgs, sizeLine]))
  have hlt := Heap.lt_size he
  have he0 := Heap.get?_push_of_some (h := h) { cls := .type "tuple", data := .seq (ueArgs en ob re i j t1 t2 t3 t4 t5).toArray } he
  have ht0 := Heap.get?_push_size h (o := { cls := .type "tuple", data := .seq (ueArgs en ob re i j t1 t2 t3 t4 t5).toArray }) rfl
  have hne : h.objs.size ≠ e := Nat.ne_of_gt hlt
  refine wpAny_bind (wp_setField he0 (by simp) fun h1 u1 e1 => ?_)
  replace e1 : h1.get? e = some ⟨.type "UnicodeEncodeError", none, .fields #[.ref h.objs.size, .none, .none, .none, .bool false, .none], #[]⟩ := e1
  refine wpAny_bind (wpAny_letGo ?_)
  rw [if_pos (show ((5 : Nat) == 5) = true from rfl)]
  refine wpAny_bind (wp_members0 e1 ?_)
  refine wpAny_bind (wp_setMembers0 e1 fun h2 u2 e2 => ?_)
  refine wpAny_bind (wpAny_letGo ?_)
  simp only [rawInt] at e2
  refine wpAny_bind (wp_members e2 ?_)
  refine wpAny_bind (wp_setMembers e2 fun h3 u3 e3 => ?_)
  refine wpAny_bind (wpAny_letGo ?_)
  simp only [rawInt] at e3
  refine wpAny_bind (wp_members e3 ?_)
  refine wpAny_bind (wp_setMembers e3 fun h4 u4 e4 => ?_)
  refine wpAny_bind (wpAny_letGo ?_)
  rw [if_neg (show ¬ (((ueArgs en ob re i j t1 t2 t3 t4 t5).length != 5) = true) by simp [ueArgs])]
  refine wpAny_pure ?_
  dsimp only
  refine wpAny_bind (wpAny_of_eq (a := ()) rfl ?_)
  refine wpAny_bind (wpAny_of_eq (a := ()) rfl ?_)
  refine wpAny_bind ?_
  unfold initRange sizeArgument
  simp only [rawInt] at e4
  have hni : ∀ {z : Int}, (0 ≤ z ∧ z < 2 ^ 63) → ¬ ((decide (z < -2 ^ 63) || decide (z ≥ 2 ^ 63)) = true) := fun {z} hz => by
    simp only [Bool.or_eq_true, decide_eq_true_eq, not_or]; omega
  refine wpAny_bind (wpAny_bind ?_)
  refine wpAny_of_eq (a := i) rfl ?_
  rw [if_neg (hni hi)]
  refine wpAny_pure (wpAny_bind (wp_members e4 (wpAny_bind (wp_setMembers e4 fun h5 u5 e5 => ?_))))
  simp only [rawInt] at e5
  refine wpAny_bind (wpAny_bind ?_)
  refine wpAny_of_eq (a := j) rfl ?_
  rw [if_neg (hni hj)]
  refine wpAny_pure (wpAny_bind (wp_members e5 (wp_setMembers e5 fun h6 u6 e6 => ?_)))
  simp only [rawInt] at e6
  refine wpAny_bind ?_
  refine wpAny_of_eq (a := ()) rfl ?_
  refine wpAny_bind (wp_members e6 (wpAny_bind (wp_setMembers e6 fun h7 u7 e7 => wpAny_pure ?_)))
  have u := (((((u1.trans u2).trans u3).trans u4).trans u5).trans u6).trans u7
  refine hq h7 h.objs.size (fun b o hb ho => (u.same b hb).trans (Heap.get?_push_of_some _ ho)) (Heap.get?_none_of_le (Nat.le_refl _)) e7 ((u.same _ hne).trans ht0)
end

theorem ue_new : ExcNewFacts "UnicodeEncodeError" "UnicodeEncodeError.__new__" where
  ends := by decide +kernel
  owner := by decide +kernel
  entry := entryFor_alias (id' := "BaseException.__new__") (by rw [fastTable_eq_tree]; kernel_rfl) (by first | rfl | decide +kernel) (by decide +kernel) (by rw [fastTable_eq_tree]; kernel_rfl)
  sub := by rw [isSubtype_type]; kernel_rfl
  notAttr := by rw [isSubtype_type]; kernel_rfl
  notName := by rw [isSubtype_type]; kernel_rfl
  made := by kernel_rfl
theorem ue_slot : Slot "UnicodeEncodeError" "__init__" "UnicodeEncodeError.__init__" :=
  .of (owner := "UnicodeEncodeError") (n := "__init__") (by rw [typeLookup_type, builtinLookup_eq_fast]; kernel_rfl) (by decide +kernel) (by decide +kernel) (by decide +kernel)
    (by first | exact .inl (by decide +kernel) | exact .inr (by decide +kernel)) (by rw [isSubtype_type]; kernel_rfl)
theorem ue_args (rest : List Value) : argsOk "UnicodeEncodeError.__init__" ⟨rest, []⟩ := by kernel_rfl
theorem ue_entry : entryFor table "UnicodeEncodeError.__init__" = some Builtin.«UnicodeEncodeError.__init__» := entryFor_of_tree (by kernel_rfl)
theorem ue_raise : ExcRaiseFacts "UnicodeEncodeError" where
  isExc := by rw [isSubtype_type]; kernel_rfl
  plainMeta := by kernel_rfl

section
variable {prog : Program} {w : World} {A : Around} {E : Value → Shared → Prop} {hp : Heap} {g : Array GenState} {d : Drawn} {tk : Nat} {os : OsState}
theorem ue_type_call {en ob re : Str} {i j : Int} {t1 t2 t3 t4 t5 : Tok} {Q : Fin → Shared → Prop} (hi : 0 ≤ i ∧ i < 2 ^ 63) (hj : 0 ≤ j ∧ j < 2 ^ 63)
    (h : ∀ h' e t, MadeU hp h' e t en ob re i j t1 t2 t3 t4 t5 → Q (.done (.ret (.ref e))) ⟨h', g, d, tk, os⟩) :
    wpAny (model prog w) A (Builtin.«type.__call__» ⟨.type "UnicodeEncodeError" :: ueArgs en ob re i j t1 t2 t3 t4 t5, []⟩) Q E ⟨hp, g, d, tk, os⟩ := by
  have hnt : (Value.type "UnicodeEncodeError" == Value.type "type") = false := by decide +kernel
  have hcan : ((Manifest.find? "UnicodeEncodeError").bind fun x => List.findSome? (fun t => (Manifest.find? t).bind fun b =>
    if b.noNew = true then some true else if (b.attrs.any fun x => x.fst == "__new__") = true then some false else none) x.mro).getD false = false := by kernel_rfl
  have hchk : checkTypeCall "UnicodeEncodeError" ⟨ueArgs en ob re i j t1 t2 t3 t4 t5, []⟩ = pure () := by kernel_rfl
  have hmro : mroOf (.type "UnicodeEncodeError") = pure [.type "UnicodeEncodeError", .type "UnicodeError", .type "ValueError", .type "Exception", .type "BaseException", .type "object"] := by rw [mroOf_type]; kernel_rfl
  have hmade : Bind.madeBy (.type "UnicodeEncodeError") = pure (some "UnicodeEncodeError.__new__") := by kernel_rfl
  wp_walk
  refine codeAny_call_builtin_code (Code.quiet_builtin _ (by decide +kernel)) (wpAny_of_eq (show checkBuiltinCall "UnicodeEncodeError.__new__" ⟨.type "UnicodeEncodeError" :: ueArgs en ob re i j t1 t2 t3 t4 t5, []⟩ = pure () by kernel_rfl) ?_)
  refine codeAny_exc_new ue_new ?_ (by simp [ueArgs, sizeLine])
  show wpAny _ _ _ _ _ _
  have hget : ((hp.push { cls := .type "tuple", data := .seq (ueArgs en ob re i j t1 t2 t3 t4 t5).toArray }).push
      { cls := .type "UnicodeEncodeError", data := .fields #[.ref hp.objs.size, .none, .none, .none, .bool false, .none] }).get? (hp.objs.size + 1) = some
      { cls := .type "UnicodeEncodeError", data := .fields #[.ref hp.objs.size, .none, .none, .none, .bool false, .none] } := by heap_get
  refine wpAny_bind (wpAny_isInstance ⟨_, hget, rfl⟩ ue_new.sub ?_)
  wp_step
  refine wpAny_bind (wpAny_holding (wpAny_callSpecial?_slot ⟨_, hget, rfl⟩ ue_slot (wpAny_call (codeAny_call_builtin ue_slot.plain ue_entry
    (ue_slot.check _ _ _ _ _ _ _ _ ⟨_, hget, rfl⟩ (ue_args _) ?_)))))
  refine ue_init hget hi hj fun h' t' k1 k2 k3 k4 => ?_
  wp_walk
  refine h h' (hp.objs.size + 1) t' ⟨fun b o hb => k1 b o (Nat.ne_of_lt (Nat.lt_succ_of_lt (Heap.lt_size hb))) (Heap.get?_push_of_some _ (Heap.get?_push_of_some _ hb)), Heap.get?_none_of_le (Nat.le_succ _), ?_, k3, k4⟩
  cases hq : hp.get? t' with
  | none => rfl
  | some o => rw [Heap.get?_push_of_some _ (Heap.get?_push_of_some _ hq)] at k2; cases k2

theorem ue_call {en ob re : Str} {i j : Int} {t1 t2 t3 t4 t5 : Tok} {Q : Value → Shared → Prop} (hi : 0 ≤ i ∧ i < 2 ^ 63) (hj : 0 ≤ j ∧ j < 2 ^ 63)
    (h : ∀ h' e t, MadeU hp h' e t en ob re i j t1 t2 t3 t4 t5 → Q (.ref e) ⟨h', g, d, tk, os⟩) :
    wpAny (model prog w) A (call (.type "UnicodeEncodeError") (ueArgs en ob re i j t1 t2 t3 t4 t5)) Q E ⟨hp, g, d, tk, os⟩ := by
  refine wpAny_call (codeAny_of_tree ?_)
  show wpAny _ _ (again (.builtin "type.__call__" ⟨.type "UnicodeEncodeError" :: ueArgs en ob re i j t1 t2 t3 t4 t5, []⟩)) _ _ _
  exact wpAny_pure ⟨Code.quiet_builtin _ (by decide +kernel), codeAny_builtin entry_typeCall (ue_type_call hi hj fun h' e t hm => h h' e t hm)⟩
end
end Mine
end
section
open PySem PySem.W PyProof.Rows
namespace Mine

def noHeap : Heap := {}
theorem noHeap_get (a : Addr) : noHeap.get? a = none := by simp [noHeap, Heap.get?]

structure Tch (xs fs : List Addr) (h h' : Heap) : Prop where
  keep : ∀ b o, h.get? b = some o → b ∉ xs → b ∉ fs → h'.get? b = some o
  slot : ∀ b o, h.get? b = some o → b ∉ xs → b ∈ fs → ∃ sl, h'.get? b = some { o with slots := sl }

theorem Tch.refl (xs fs : List Addr) (h : Heap) : Tch xs fs h h := ⟨fun _ _ e _ _ => e, fun _ o e _ _ => ⟨o.slots, e⟩⟩
theorem Tch.trans {xs fs : List Addr} {h₁ h₂ h₃ : Heap} (x : Tch xs fs h₁ h₂) (y : Tch xs fs h₂ h₃) : Tch xs fs h₁ h₃ :=
  ⟨fun b o e n m => y.keep b o (x.keep b o e n m) n m, fun b o e n m => by
    obtain ⟨sl, e1⟩ := x.slot b o e n m
    obtain ⟨sl2, e2⟩ := y.slot b _ e1 n m
    exact ⟨sl2, e2⟩⟩
theorem Tch.mono {xs ys fs : List Addr} {h h' : Heap} (x : Tch xs fs h h') (s : ∀ b ∈ xs, b ∈ ys) : Tch ys fs h h' :=
  ⟨fun b o e n m => x.keep b o e (fun q => n (s b q)) m, fun b o e n m => x.slot b o e (fun q => n (s b q)) m⟩
theorem Tch.of_stays {xs fs : List Addr} {h h' : Heap} (k : h.StaysIn h') : Tch xs fs h h' := ⟨fun b o e _ _ => k b o e, fun b o e _ _ => ⟨o.slots, k b o e⟩⟩
theorem Tch.of_up1 {a : Addr} {xs fs : List Addr} {h h' : Heap} (u : Up1 a h h') (ha : a ∈ xs) : Tch xs fs h h' :=
  ⟨fun b o e n _ => (u.same b fun q => n (q ▸ ha)).trans e, fun b o e n _ => ⟨o.slots, (u.same b fun q => n (q ▸ ha)).trans e⟩⟩
theorem Tch.of_slotsOnly {xs fs : List Addr} {h h' : Heap} (x : Heap.SlotsOnly fs h h') : Tch xs fs h h' :=
  ⟨fun b o e _ m => (x.2.1 b m).trans e, fun b o e _ _ => x.2.2 b o e⟩
theorem Tch.some {xs fs : List Addr} {h h' : Heap} (x : Tch xs fs h h') {b : Addr} {o : Obj} (e : h.get? b = some o) (n : b ∉ xs) : ∃ sl, h'.get? b = some { o with slots := sl } := by
  by_cases m : b ∈ fs
  · exact x.slot b o e n m
  · exact ⟨o.slots, x.keep b o e n m⟩
theorem Tch.none {fs : List Addr} {h h' : Heap} (x : Tch [] fs h h') {b : Addr} (e : h'.get? b = none) : h.get? b = none := by
  cases hq : h.get? b with
  | none => rfl
  | some o => obtain ⟨sl, e2⟩ := x.some hq (by simp); rw [e] at e2; cases e2
theorem Tch.fresh {xs fs : List Addr} {B h h' : Heap} (S : Tch [] fs B h) (x : Tch xs fs h h') (hx : ∀ a ∈ xs, B.get? a = Option.none) : Tch [] fs B h' := by
  have nx : ∀ b o, B.get? b = Option.some o → b ∉ xs := fun b o e q => by rw [hx b q] at e; cases e
  refine ⟨fun b o e n m => x.keep b o (S.keep b o e n m) (nx b o e) m, fun b o e n m => ?_⟩
  obtain ⟨sl, e1⟩ := S.slot b o e n m
  obtain ⟨sl2, e2⟩ := x.slot b _ e1 (nx b o e) m
  exact ⟨sl2, e2⟩
theorem Tch.ns {xs fs : List Addr} {h h' : Heap} (x : Tch xs fs h h') {L : Addr} {m : Str → Option Value} (n : L ∉ xs) (hn : h.Ns L m) : h'.Ns L m := by
  obtain ⟨o, es, ep, ho, hd, r⟩ := hn
  obtain ⟨sl, hs⟩ := x.some ho n
  exact ⟨_, es, ep, hs, hd, r⟩
theorem Tch.ff {xs fs : List Addr} {h h' base : Heap} (x : Tch xs fs h h') (hx : ∀ a ∈ xs, ∀ o, h.get? a = Option.some o → ∃ vs, o.data = .fields vs) {l : List Env} (hl : h.FunFrames base l) : h'.FunFrames base l :=
  hl.of_keeps fun b o hb hd => by
    obtain ⟨sl, e⟩ := x.some hb (fun q => by obtain ⟨vs, e⟩ := hx b q o hb; exact hd vs e)
    exact ⟨_, e, rfl⟩

def TB (h : Heap) (T : Addr) (fl : Value) : Prop := ∃ oT ts, h.get? T = some oT ∧ oT.data = .fields ts ∧ ts[3]? = some fl
theorem TB.fields {h : Heap} {T : Addr} {fl : Value} (x : TB h T fl) : ∀ o, h.get? T = some o → ∃ vs, o.data = .fields vs := fun o e => by
  obtain ⟨oT, ts, e1, e2, _⟩ := x
  rw [e1] at e; cases e; exact ⟨ts, e2⟩
theorem TB.ne {h : Heap} {T : Addr} {fl : Value} (x : TB h T fl) {l : List Env} {base : Heap} (hl : h.FunFrames base l) : T ∉ l.filterMap (·.frame) := fun q => by
  obtain ⟨oT, ts, e1, e2, _⟩ := x
  obtain ⟨_, o, ho, hnf⟩ := hl.mem q
  rw [e1] at ho; cases ho; exact hnf ts e2
theorem TB.tch {xs : List Addr} {h h' : Heap} {T : Addr} {fl : Value} {l : List Env} {base : Heap} (x : TB h T fl) (hl : h.FunFrames base l) (y : Tch xs (l.filterMap (·.frame)) h h') (hn : T ∉ xs) : TB h' T fl := by
  have nf := x.ne hl
  obtain ⟨oT, ts, e1, e2, e3⟩ := x
  exact ⟨oT, ts, y.keep T oT e1 hn nf, e2, e3⟩

section
variable {M : Model} {A : Around} {E : Value → Shared → Prop} {h : Heap} {g : Array GenState} {d : Drawn} {t : Nat} {os : OsState}
  {env : Env} {outer : List Env} {L e : Addr} {cls : Value} {dd : Option Addr} {sl : Array (Option Value)} {vs : Array Value} {base : Heap}

theorem ff_apart (hl : h.FunFrames base (env :: outer)) {a : Addr} {o : Obj} (he : h.get? a = some o) (hd : o.data = .fields vs) : a ∉ (env :: outer).filterMap (·.frame) := fun hm => by
  obtain ⟨_, o', ho, hnf⟩ := hl.mem hm
  rw [he] at ho; cases ho; exact hnf vs hd

theorem new_entry {head : Value} {hadNext : Bool} {Q : Unit → Shared → Prop} (hfr : A.frames = some (env :: outer)) (hl : h.FunFrames base (env :: outer)) (hf : env.frame = some L)
    (he : h.get? e = some ⟨cls, dd, .fields vs, sl⟩) (hsz : 1 < vs.size)
    (k : ∀ h' T, Tch [e] ((env :: outer).filterMap (·.frame)) h h' → h'.FunFrames base (env :: outer) → h.get? T = none → T ≠ e →
      h'.get? e = some ⟨cls, dd, .fields (vs.setIfInBounds 1 (.ref T)), sl⟩ → TB h' T (rawInt L) → Q () ⟨h', g, d, t, os⟩) :
    wpAny M A (do let a ← frameOf env; let pl ← entryPlaceOf L hadNext; let b ← EntryCells.newEntry head a .none (rawInt L) .none pl; setField (.ref e) 1 b) Q E ⟨h, g, d, t, os⟩ := by
  have hene := ff_apart hl he rfl
  refine wpAny_bind (wpAny_frameOf_fun (s := ⟨h, g, d, t, os⟩) hfr hl hf fun h₁ hs₁ => ?_)
  refine wpAny_bind (wpAny_entryPlaceOf fun pl hpl => ?_)
  unfold EntryCells.newEntry newFields
  refine wpAny_bind (wpAny_newObj_type ?_ (hpl.sizeOk5 _ _ _ _ _))
  have he₁ : h₁.get? e = some ⟨cls, dd, .fields vs, sl⟩ := (hs₁.2.1 e hene).trans he
  have he₂ := Heap.get?_push_of_some (h := h₁) { cls := .type "traceback", dict := none, data := .fields ([head, .ref L, .none, rawInt L, .none] ++ (if pl.isEmpty then List.replicate 6 Value.none else pl)).toArray } he₁
  have hT₂ := Heap.get?_push_size h₁ (o := { cls := .type "traceback", dict := none, data := .fields ([head, .ref L, .none, rawInt L, .none] ++ (if pl.isEmpty then List.replicate 6 Value.none else pl)).toArray }) rfl
  have hTe : h₁.objs.size ≠ e := Nat.ne_of_gt (Heap.lt_size he₁)
  refine wp_setField he₂ hsz fun h₃ u₃ e₃ => ?_
  have tch : Tch [e] ((env :: outer).filterMap (·.frame)) h h₃ :=
    ((Tch.of_slotsOnly hs₁).trans (Tch.of_stays fun b o hb => Heap.get?_push_of_some _ hb)).trans (Tch.of_up1 u₃ (List.mem_singleton.mpr rfl))
  refine k h₃ h₁.objs.size tch (tch.ff (fun a ha o ho => ?_) hl) ?_ hTe e₃ ⟨_, _, (u₃.same _ hTe).trans hT₂, rfl, ?_⟩
  · obtain rfl := List.mem_singleton.mp ha
    rw [he] at ho; cases ho; exact ⟨_, rfl⟩
  · exact Heap.get?_none_of_le (Nat.le_of_eq hs₁.1.symm)
  · simp

theorem note_first {Q : Unit → Shared → Prop} (hfr : A.frames = some (env :: outer)) (hl : h.FunFrames base (env :: outer)) (hf : env.frame = some L)
    (he : h.get? e = some ⟨cls, dd, .fields vs, sl⟩) (h1 : vs[1]? = some .none)
    (k : ∀ h' T, Tch [e] ((env :: outer).filterMap (·.frame)) h h' → h'.FunFrames base (env :: outer) → h.get? T = none → T ≠ e →
      h'.get? e = some ⟨cls, dd, .fields (vs.setIfInBounds 1 (.ref T)), sl⟩ → TB h' T (rawInt L) → Q () ⟨h', g, d, t, os⟩) :
    wpAny M A (noteFrame (.ref e) env) Q E ⟨h, g, d, t, os⟩ := by
  unfold noteFrame
  simp only [hf]
  refine wpAny_bind (wpAny_field (s := ⟨h, g, d, t, os⟩) he rfl h1 ?_)
  rw [if_neg (by decide)]
  exact new_entry hfr hl hf he (Array.getElem?_eq_some_iff.mp h1).1 k

theorem note_next {T : Addr} {Q : Unit → Shared → Prop} (hfr : A.frames = some (env :: outer)) (hl : h.FunFrames base (env :: outer)) (hf : env.frame = some L)
    (he : h.get? e = some ⟨cls, dd, .fields vs, sl⟩) (h1 : vs[1]? = some (.ref T)) (hT : TB h T .none) (hTe : T ≠ e)
    (k : ∀ h' T', Tch [e, T] ((env :: outer).filterMap (·.frame)) h h' → h'.FunFrames base (env :: outer) → h.get? T' = none → T' ≠ e →
      h'.get? e = some ⟨cls, dd, .fields (vs.setIfInBounds 1 (.ref T')), sl⟩ → TB h' T' (rawInt L) → Q () ⟨h', g, d, t, os⟩) :
    wpAny M A (noteFrame (.ref e) env) Q E ⟨h, g, d, t, os⟩ := by
  have hTf := hT.fields
  obtain ⟨oT, ts, hT1, hT2, hT3⟩ := hT
  unfold noteFrame
  simp only [hf]
  refine wpAny_bind (wpAny_field (s := ⟨h, g, d, t, os⟩) he rfl h1 ?_)
  rw [if_pos (show (Value.ref T != Value.none) = true from by simp)]
  refine wpAny_bind (wpAny_field (s := ⟨h, g, d, t, os⟩) hT1 hT2 hT3 ?_)
  rw [if_neg (show ¬ ((Value.none == rawInt L) = true) from by simp [rawInt])]
  refine wpAny_bind (wpAny_setField (s := ⟨h, g, d, t, os⟩) hT1 hT2 (Array.getElem?_eq_some_iff.mp hT3).1 ?_)
  have u := Up1.update T h (Obj.mapFields (·.setIfInBounds 3 Value.none))
  have t1 : Tch [e, T] ((env :: outer).filterMap (·.frame)) h (h.update T (Obj.mapFields (·.setIfInBounds 3 Value.none))) := Tch.of_up1 u (by simp)
  have hl1 := t1.ff (fun a ha o ho => by
    rcases List.mem_cons.mp ha with rfl | ha
    · rw [he] at ho; cases ho; exact ⟨_, rfl⟩
    · obtain rfl := List.mem_singleton.mp ha; exact hTf o ho) hl
  refine new_entry hfr hl1 hf ((u.same e (Ne.symm hTe)).trans he) (Array.getElem?_eq_some_iff.mp h1).1 fun h' T' t2 f2 n2 ne2 e2 tb2 => ?_
  refine k h' T' (t1.trans (t2.mono (by simp))) f2 ?_ ne2 e2 tb2
  by_cases q : T' = T
  · subst q
    rw [Heap.get?_update_self _ hT1 (Obj.isFreed_of_fields (Obj.data_mapFields hT2 _))] at n2; cases n2
  · rw [← u.same T' q]; exact n2

theorem note_again {T : Addr} {Q : Unit → Shared → Prop} (hf : env.frame = some L) (he : h.get? e = some ⟨cls, dd, .fields vs, sl⟩) (h1 : vs[1]? = some (.ref T)) (hT : TB h T (rawInt L))
    (k : Q () ⟨h, g, d, t, os⟩) : wpAny M A (noteFrame (.ref e) env) Q E ⟨h, g, d, t, os⟩ := by
  obtain ⟨oT, ts, hT1, hT2, hT3⟩ := hT
  exact wpAny_noteFrame_inFlight (s := ⟨h, g, d, t, os⟩) hf he rfl h1 hT1 hT2 hT3 k

theorem set_flight {T : Addr} {fl : Value} {fr : Option Addr} {Q : Unit → Shared → Prop} (he : h.get? e = some ⟨cls, dd, .fields vs, sl⟩) (h1 : vs[1]? = some (.ref T)) (hT : TB h T fl)
    (k : ∀ h', Up1 T h h' → TB h' T (fr.elim .none fun f => rawInt f) → Q () ⟨h', g, d, t, os⟩) :
    wpAny M A (setFlight (.ref e) fr) Q E ⟨h, g, d, t, os⟩ := by
  obtain ⟨oT, ts, hT1, hT2, hT3⟩ := hT
  have hsz : 3 < ts.size := (Array.getElem?_eq_some_iff.mp hT3).1
  unfold setFlight
  refine wpAny_bind (wpAny_field (s := ⟨h, g, d, t, os⟩) he rfl h1 ?_)
  rw [if_pos (show (Value.ref T != Value.none) = true from by simp)]
  refine wpAny_setField (s := ⟨h, g, d, t, os⟩) hT1 hT2 hsz (k _ (Up1.update ..) ⟨_, _, Heap.get?_update_self _ hT1 (Obj.isFreed_of_fields (Obj.data_mapFields hT2 _)), Obj.data_mapFields hT2 _, ?_⟩)
  simp [hsz]

theorem set_flight0 {fr : Option Addr} {Q : Unit → Shared → Prop} (he : h.get? e = some ⟨cls, dd, .fields vs, sl⟩) (h1 : vs[1]? = some .none)
    (k : Q () ⟨h, g, d, t, os⟩) : wpAny M A (setFlight (.ref e) fr) Q E ⟨h, g, d, t, os⟩ := by
  unfold setFlight
  refine wpAny_bind (wpAny_field (s := ⟨h, g, d, t, os⟩) he rfl h1 ?_)
  rw [if_neg (by decide)]
  exact wpAny_pure k
end
end Mine
end
section
open PySem PySem.W PyProof.Rows
open PySem.Builtin._codecs
namespace Mine

section
variable {prog : Program} {w : World} {A : Around} {E : Value → Shared → Prop} {h : Heap} {g : Array GenState} {d : Drawn} {t : Nat} {os : OsState}

theorem hi_le (l : List Nat) : hi l ≤ l.length := by
  unfold hi
  have h1 := takeWhile_len_le (p := fun c => !decide (c < 256)) (l.drop (lo l))
  have h2 := lo_le l
  rw [List.length_drop] at h1
  omega

theorem gm_encode {M : Model} {s : Shared} {x : Str} {tk : Tok} {pl : Sem Bool} {Q : Value × List Value → Shared → Prop} (hq : Q (.builtin "str.encode", [.str x tk]) s) :
    wpAny M A (getMethod (.str x tk) "encode" pl) Q E s := by
  with_reducible exact GM.of (.str x tk) (typeIs_str _ _ _) F.slot_str_encode F.type_str_encode GM.noRef hq

theorem call_encode {x : Str} {tx te : Tok} {Q : Value → Shared → Prop} (hh : A.handled = none) (hx : x.length ≤ sizeLine)
    (hok : lo x.cps.toList = x.cps.toList.length → ∀ tk, Q (.bytes (x.cps.toList.map (·.toUInt8)).toArray t) ⟨h, g, d, tk, os⟩)
    (hbad : lo x.cps.toList < x.cps.toList.length → ∀ h' e T t1 t3 t4 t5 tk,
      MadeU h h' e T (Str.ofString "latin-1") x (Str.ofString "ordinal not in range(256)") (lo x.cps.toList) (hi x.cps.toList) t1 tx t3 t4 t5 → E (.ref e) ⟨h', g, d, tk, os⟩) :
    wpAny (model prog w) A (call (.builtin "str.encode") [.str x tx, .str (Str.ofString "latin-1") te]) Q E ⟨h, g, d, t, os⟩ := by
  refine wpAny_call (codeAny_call_builtin F.slot_str_encode.plain F.entry_str_encode (F.slot_str_encode.check _ _ _ _ _ _ _ _ (typeIs_str _ _ _) (F.args_str_encode_2 _ _) ?_))
  unfold Builtin.«str.encode»
  wp_walk
  rw [if_neg (by decide +kernel)]
  show wpAny _ _ (if (Str.ofString "latin-1").cps.contains 0 = true then _ else _) _ _ _
  rw [if_neg (by decide +kernel)]
  refine wpAny_pure ?_
  dsimp only [Option.getD_some]
  wp_step
  refine wpAny_of_eq (a := none) rfl ?_
  wp_step
  unfold encodeRoad
  rw [show (normalName (Str.ofString "latin-1")).toString = "latin_1" by decide +kernel]
  wp_step
  have hhi : hi x.cps.toList ≤ x.cps.toList.length := hi_le _
  have hlen : x.cps.toList.length = x.length := Array.length_toList
  have hsl : sizeLine = 16777216 := rfl
  refine wpAny_bind (enc_narrow hx (fun hlo => ?_) fun hlo Q' => ?_)
  · have hm : wpAny (model prog w) A.in1 (mkBytes (List.map (fun x => x.toUInt8) x.cps.toList).toArray) (fun v s' => v = .bytes (List.map (fun x => x.toUInt8) x.cps.toList).toArray t ∧ s' = ⟨h, g, d, t + 1, os⟩) (fun _ _ => False) ⟨h, g, d, t, os⟩ := by
      unfold mkBytes
      rw [if_neg (by simp only [List.size_toArray, List.length_map]; omega)]
      wp_walk
      exact ⟨rfl, rfl⟩
    refine wpAny_mono hm (fun v s' hv => ?_) (fun _ _ x => x.elim)
    obtain ⟨rfl, rfl⟩ := hv
    exact wpAny_pure (hok hlo _)
  · unfold raiseEncodeFault
    refine wpAny_bind ?_
    wp_delta
    refine wpAny_bind (wpAny_mkStr' ?_ (by decide +kernel))
    refine wpAny_bind (wpAny_pure ?_)
    refine wpAny_bind (wpAny_mkInt' (wpAny_bind (wpAny_mkInt' (wpAny_bind (wpAny_mkStr' ?_ (by decide +kernel))))))
    refine ue_call ⟨by omega, by omega⟩ ⟨by omega, by omega⟩ fun h' e T hm => ?_
    exact wpAny_raiseNew_none hh (hbad hlo _ _ _ _ _ _ _ _ hm)
end
end Mine
end
section
open PySem PySem.W PyProof.Rows
namespace Mine
theorem slot_md_get : Slot "member_descriptor" "__get__" "member_descriptor.__get__" :=
  .of (owner := "member_descriptor") (n := "__get__") (by rw [typeLookup_type, builtinLookup_eq_fast]; kernel_rfl) (by decide +kernel) (by decide +kernel) (by decide +kernel)
    (by first | exact .inl (by decide +kernel) | exact .inr (by decide +kernel)) (by rw [isSubtype_type]; kernel_rfl)
theorem slot_md_set : Slot "member_descriptor" "__set__" "member_descriptor.__set__" :=
  .of (owner := "member_descriptor") (n := "__set__") (by rw [typeLookup_type, builtinLookup_eq_fast]; kernel_rfl) (by decide +kernel) (by decide +kernel) (by decide +kernel)
    (by first | exact .inl (by decide +kernel) | exact .inr (by decide +kernel)) (by rw [isSubtype_type]; kernel_rfl)
theorem entry_md_get : entryFor table "member_descriptor.__get__" = some Builtin.«member_descriptor.__get__» := entryFor_of_tree (by kernel_rfl)
theorem args_md_get (a b c : Value) : argsOk "member_descriptor.__get__" ⟨[a, b, c], []⟩ := by unfold argsOk; kernel_rfl

theorem attr_ue : ExcAttrFacts "UnicodeEncodeError" where
  ga := .of (owner := "BaseException") (n := "__getattribute__") (by rw [typeLookup_type, builtinLookup_eq_fast]; kernel_rfl) (by decide +kernel) (by decide +kernel) (by decide +kernel)
    (by first | exact .inl (by decide +kernel) | exact .inr (by decide +kernel)) (by rw [isSubtype_type]; kernel_rfl)
  lkArgs := by rw [typeLookup_type, builtinLookup_eq_fast]; kernel_rfl
  sub := by rw [isSubtype_type]; kernel_rfl

structure MemFacts (name : Str) (id : String) (b : Builtin) : Prop where
  lk : typeLookup (.type "UnicodeEncodeError") name = pure (some (.builtin id))
  ty : typeOf (.builtin id) = pure (.type "member_descriptor")
  entry : entryFor table id = some b
  owner : (".".intercalate (id.cutAt '.').dropLast) = "UnicodeEncodeError"
  quiet : ∀ args, (Code.builtin id args).quiet = true

section
variable {prog : Program} {w : World} {A : Around} {E : Value → Shared → Prop} {h : Heap} {g : Array GenState} {d : Drawn} {t t' : Nat} {os : OsState} {a : Addr} {o : Obj} {v : Value} {name : Str} {id : String} {b : Builtin}

theorem mem_get {R : Result → Shared → Prop} (F : MemFacts name id b) (hx : h.get? a = some o) (hc : o.cls = .type "UnicodeEncodeError")
    (hb : ∀ (A : Around) (Q : Fin → Shared → Prop) (E : Value → Shared → Prop), Q (.done (.ret v)) ⟨h, g, d, t', os⟩ → wpAny (model prog w) A (b ⟨[.ref a], []⟩) Q E ⟨h, g, d, t, os⟩)
    (hq : R (.ok (.ret v)) ⟨h, g, d, t', os⟩) :
    codeAny (model prog w) A (.call (.builtin "member_descriptor.__get__") ⟨[.builtin id, .ref a, .type "UnicodeEncodeError"], []⟩) R ⟨h, g, d, t, os⟩ := by
  have hT : (⟨h, g, d, t, os⟩ : Shared).TypeIs (.ref a) "UnicodeEncodeError" := ⟨_, hx, hc⟩
  have hT5 : (⟨h, g, d, t, os⟩ : Shared).TypeIs (.builtin id) "member_descriptor" := F.ty
  have f8 : isSubtype (.type "UnicodeEncodeError") (.type (".".intercalate (id.cutAt '.').dropLast)) = pure true := by rw [F.owner]; exact ue_new.sub
  refine codeAny_call_builtin slot_md_get.plain entry_md_get (slot_md_get.check _ _ _ _ _ _ _ _ hT5 (args_md_get _ _ _) ?_)
  repeat (any_goals (first | assumption | wp_step))
  refine ⟨F.quiet _, codeAny_builtin F.entry (hb _ _ _ ?_)⟩
  exact hq

theorem mem_entry {tk : Tok} {Q : Fin → Shared → Prop} (F : MemFacts name id b) (hx : h.get? a = some o) (hc : o.cls = .type "UnicodeEncodeError")
    (hb : ∀ (A : Around) (Q : Fin → Shared → Prop) (E : Value → Shared → Prop), Q (.done (.ret v)) ⟨h, g, d, t', os⟩ → wpAny (model prog w) A (b ⟨[.ref a], []⟩) Q E ⟨h, g, d, t, os⟩)
    (hq : Q (.done (.ret v)) ⟨h, g, d, t', os⟩) :
    wpAny (model prog w) A (Builtin.«object.__getattribute__» ⟨[.ref a, .str name tk], []⟩) Q E ⟨h, g, d, t, os⟩ := by
  have hT : (⟨h, g, d, t, os⟩ : Shared).TypeIs (.ref a) "UnicodeEncodeError" := ⟨_, hx, hc⟩
  have hT5 : (⟨h, g, d, t, os⟩ : Shared).TypeIs (.builtin id) "member_descriptor" := F.ty
  have f4 := F.lk
  have f5 := F.ty
  have f6 := slot_md_get.lookup
  have f7 := slot_md_set.lookup
  repeat (any_goals (first | assumption | wp_step))
  refine mem_get F hx hc hb ?_
  repeat (any_goals (first | assumption | wp_step))

theorem mem_call {tk : Tok} {R : Result → Shared → Prop} (F : MemFacts name id b) (hx : h.get? a = some o) (hc : o.cls = .type "UnicodeEncodeError")
    (hb : ∀ (A : Around) (Q : Fin → Shared → Prop) (E : Value → Shared → Prop), Q (.done (.ret v)) ⟨h, g, d, t', os⟩ → wpAny (model prog w) A (b ⟨[.ref a], []⟩) Q E ⟨h, g, d, t, os⟩)
    (hq : R (.ok (.ret v)) ⟨h, g, d, t', os⟩) :
    codeAny (model prog w) A (.call (.builtin "BaseException.__getattribute__") ⟨[.ref a, .str name tk], []⟩) R ⟨h, g, d, t, os⟩ :=
  codeAny_call_builtin attr_ue.ga.plain PySem.F.entry_bexc_ga (attr_ue.ga.check _ _ _ _ _ _ _ _ (show (⟨h, g, d, t, os⟩ : Shared).TypeIs (.ref a) "UnicodeEncodeError" from ⟨_, hx, hc⟩) (PySem.F.args_bexc_ga _ _) (mem_entry F hx hc hb hq))

theorem mem_by {tk : Tok} {fill expr : Bool} {Q : Value → Shared → Prop} (F : MemFacts name id b) (hv : handedOut v = pure v) (hx : h.get? a = some o) (hc : o.cls = .type "UnicodeEncodeError")
    (hb : ∀ (A : Around) (Q : Fin → Shared → Prop) (E : Value → Shared → Prop), Q (.done (.ret v)) ⟨h, g, d, t', os⟩ → wpAny (model prog w) A (b ⟨[.ref a], []⟩) Q E ⟨h, g, d, t, os⟩)
    (hq : Q v ⟨h, g, d, t', os⟩) : wpAny (model prog w) A (getAttrBy (.ref a) (.str name tk) fill expr) Q E ⟨h, g, d, t, os⟩ := by
  have hT : (⟨h, g, d, t, os⟩ : Shared).TypeIs (.ref a) "UnicodeEncodeError" := ⟨_, hx, hc⟩
  have f2 := attr_ue.ga.lookup
  have f3 := attr_ue.ga.bind (.ref a)
  have hx0 : (expr && onTheHeap (Value.builtin "BaseException.__getattribute__")) = false := by cases expr <;> rfl
  repeat (any_goals (first | assumption | wp_step))
  refine mem_call F hx hc hb ?_
  repeat (any_goals (first | assumption | wp_step))

theorem mem_attr {expr : Bool} {Q : Value → Shared → Prop} (F : MemFacts name id b) (hx : h.get? a = some o) (hc : o.cls = .type "UnicodeEncodeError") (hv : handedOut v = pure v)
    (hb : ∀ (A : Around) (Q : Fin → Shared → Prop) (E : Value → Shared → Prop), Q (.done (.ret v)) ⟨h, g, d, t', os⟩ → wpAny (model prog w) A (b ⟨[.ref a], []⟩) Q E ⟨h, g, d, t + 1, os⟩)
    (hq : Q v ⟨h, g, d, t', os⟩) : wpAny (model prog w) A (getAttr (.ref a) name expr) Q E ⟨h, g, d, t, os⟩ := by
  unfold getAttr
  repeat (any_goals (first | assumption | with_reducible apply mem_by F hv hx hc hb | wp_step))

theorem mem_objectGet {get : Builtin.UnicodeEncodeError.Members → Value} {v0 v1 v2 v3 v4 v5 en ob re : Value} {i j : Int} {ti tj : Tok} {cls : Value} {dd : Option Addr} {sl : Array (Option Value)} {Q : Fin → Shared → Prop}
    (ho : h.get? a = some ⟨cls, dd, .fields #[v0, v1, v2, v3, v4, v5, en, ob, .int i ti, .int j tj, re], sl⟩) (hu : Builtin.UnicodeEncodeError.isUnset (get ⟨en, ob, i, j, re⟩) = false)
    (hq : Q (.done (.ret (get ⟨en, ob, i, j, re⟩))) ⟨h, g, d, t, os⟩) :
    wpAny (model prog w) A (Builtin.UnicodeEncodeError.objectGet id get ⟨[.ref a], []⟩) Q E ⟨h, g, d, t, os⟩ := by
  unfold Builtin.UnicodeEncodeError.objectGet
  refine wpAny_bind (wp_members ho ?_)
  dsimp only
  rw [hu]
  exact wpAny_pure hq
theorem mem_sizeGet {get : Builtin.UnicodeEncodeError.Members → Int} {v0 v1 v2 v3 v4 v5 en ob re : Value} {i j : Int} {ti tj : Tok} {cls : Value} {dd : Option Addr} {sl : Array (Option Value)} {Q : Fin → Shared → Prop}
    (ho : h.get? a = some ⟨cls, dd, .fields #[v0, v1, v2, v3, v4, v5, en, ob, .int i ti, .int j tj, re], sl⟩)
    (hq : Q (.done (.ret (.int (get ⟨en, ob, i, j, re⟩) t))) ⟨h, g, d, t + 1, os⟩) :
    wpAny (model prog w) A (Builtin.UnicodeEncodeError.sizeGet id get ⟨[.ref a], []⟩) Q E ⟨h, g, d, t, os⟩ := by
  unfold Builtin.UnicodeEncodeError.sizeGet
  refine wpAny_bind (wp_members ho ?_)
  unfold retInt
  exact wpAny_bind (wpAny_mkInt' (wpAny_pure hq))

theorem mf_encoding : MemFacts "encoding" "UnicodeEncodeError.encoding" Builtin.«UnicodeEncodeError.encoding» where
  lk := by rw [typeLookup_type, builtinLookup_eq_fast]; kernel_rfl
  ty := by kernel_rfl
  entry := entryFor_of_tree (by kernel_rfl)
  owner := by rw [show "UnicodeEncodeError.encoding".cutAt '.' = ["UnicodeEncodeError", "encoding"] by first | rfl | decide +kernel]; decide +kernel
  quiet := fun _ => Code.quiet_builtin _ (by decide +kernel)
theorem mf_object : MemFacts "object" "UnicodeEncodeError.object" Builtin.«UnicodeEncodeError.object» where
  lk := by rw [typeLookup_type, builtinLookup_eq_fast]; kernel_rfl
  ty := by kernel_rfl
  entry := entryFor_of_tree (by kernel_rfl)
  owner := by rw [show "UnicodeEncodeError.object".cutAt '.' = ["UnicodeEncodeError", "object"] by first | rfl | decide +kernel]; decide +kernel
  quiet := fun _ => Code.quiet_builtin _ (by decide +kernel)
theorem mf_reason : MemFacts "reason" "UnicodeEncodeError.reason" Builtin.«UnicodeEncodeError.reason» where
  lk := by rw [typeLookup_type, builtinLookup_eq_fast]; kernel_rfl
  ty := by kernel_rfl
  entry := entryFor_of_tree (by kernel_rfl)
  owner := by rw [show "UnicodeEncodeError.reason".cutAt '.' = ["UnicodeEncodeError", "reason"] by first | rfl | decide +kernel]; decide +kernel
  quiet := fun _ => Code.quiet_builtin _ (by decide +kernel)
theorem mf_start : MemFacts "start" "UnicodeEncodeError.start" Builtin.«UnicodeEncodeError.start» where
  lk := by rw [typeLookup_type, builtinLookup_eq_fast]; kernel_rfl
  ty := by kernel_rfl
  entry := entryFor_of_tree (by kernel_rfl)
  owner := by rw [show "UnicodeEncodeError.start".cutAt '.' = ["UnicodeEncodeError", "start"] by first | rfl | decide +kernel]; decide +kernel
  quiet := fun _ => Code.quiet_builtin _ (by decide +kernel)
theorem mf_end : MemFacts "end" "UnicodeEncodeError.end" Builtin.«UnicodeEncodeError.end» where
  lk := by rw [typeLookup_type, builtinLookup_eq_fast]; kernel_rfl
  ty := by kernel_rfl
  entry := entryFor_of_tree (by kernel_rfl)
  owner := by rw [show "UnicodeEncodeError.end".cutAt '.' = ["UnicodeEncodeError", "end"] by first | rfl | decide +kernel]; decide +kernel
  quiet := fun _ => Code.quiet_builtin _ (by decide +kernel)

abbrev UeAt (h : Heap) (a : Addr) (v0 v1 v2 v3 v4 v5 : Value) (en ob re : Str) (i j : Int) (t1 t2 t5 : Tok) : Prop :=
  h.get? a = some { cls := .type "UnicodeEncodeError", data := .fields #[v0, v1, v2, v3, v4, v5, .str en t1, .str ob t2, rawInt i, rawInt j, .str re t5] }

section
variable {v0 v1 v2 v3 v4 v5 : Value} {en ob re : Str} {i j : Int} {t1 t2 t5 : Tok} {expr : Bool} {Q : Value → Shared → Prop}
theorem at_encoding (ho : UeAt h a v0 v1 v2 v3 v4 v5 en ob re i j t1 t2 t5) (hq : Q (.str en t1) ⟨h, g, d, t + 1, os⟩) : wpAny (model prog w) A (getAttr (.ref a) "encoding" expr) Q E ⟨h, g, d, t, os⟩ :=
  mem_attr mf_encoding ho rfl rfl (fun A Q E hq => mem_objectGet ho rfl hq) hq
theorem at_object (ho : UeAt h a v0 v1 v2 v3 v4 v5 en ob re i j t1 t2 t5) (hq : Q (.str ob t2) ⟨h, g, d, t + 1, os⟩) : wpAny (model prog w) A (getAttr (.ref a) "object" expr) Q E ⟨h, g, d, t, os⟩ :=
  mem_attr mf_object ho rfl rfl (fun A Q E hq => mem_objectGet ho rfl hq) hq
theorem at_reason (ho : UeAt h a v0 v1 v2 v3 v4 v5 en ob re i j t1 t2 t5) (hq : Q (.str re t5) ⟨h, g, d, t + 1, os⟩) : wpAny (model prog w) A (getAttr (.ref a) "reason" expr) Q E ⟨h, g, d, t, os⟩ :=
  mem_attr mf_reason ho rfl rfl (fun A Q E hq => mem_objectGet ho rfl hq) hq
theorem at_start (ho : UeAt h a v0 v1 v2 v3 v4 v5 en ob re i j t1 t2 t5) (hq : Q (.int i (t + 1)) ⟨h, g, d, t + 2, os⟩) : wpAny (model prog w) A (getAttr (.ref a) "start" expr) Q E ⟨h, g, d, t, os⟩ :=
  mem_attr mf_start ho rfl rfl (fun A Q E hq => mem_sizeGet ho hq) hq
theorem at_end (ho : UeAt h a v0 v1 v2 v3 v4 v5 en ob re i j t1 t2 t5) (hq : Q (.int j (t + 1)) ⟨h, g, d, t + 2, os⟩) : wpAny (model prog w) A (getAttr (.ref a) "end" expr) Q E ⟨h, g, d, t, os⟩ :=
  mem_attr mf_end ho rfl rfl (fun A Q E hq => mem_sizeGet ho hq) hq
theorem at_args {t0 : Addr} (ho : UeAt h a (.ref t0) v1 v2 v3 v4 v5 en ob re i j t1 t2 t5) (hq : Q (.ref t0) ⟨h, g, d, t + 1, os⟩) : wpAny (model prog w) A (getAttr (.ref a) "args" expr) Q E ⟨h, g, d, t, os⟩ :=
  args_attr attr_ue ho rfl rfl rfl hq
end
end
end Mine
end
section
open PySem PySem.W PyProof.Rows
open PySem.Builtin PySem.Builtin.Str
namespace Mine

def cut20 (x : Str) : Str := ⟨(x.cps.toList.take 20).toArray⟩
theorem str_ext {x y : Str} (h : x.cps.toList = y.cps.toList) : x = y := by
  obtain ⟨a⟩ := x; obtain ⟨b⟩ := y
  obtain ⟨a⟩ := a; obtain ⟨b⟩ := b
  simp at h; rw [h]
theorem cut20_short {x : Str} (h : x.length ≤ 20) : cut20 x = x := str_ext (by
  show x.cps.toList.take 20 = _
  rw [List.take_of_length_le]
  rw [Array.length_toList]; exact h)
theorem cut20_sub (x : Str) : strSub x 0 20 = cut20 x := str_ext (by
  rw [StrLaws.strSub_toList]; rfl)
theorem cut20_len (x : Str) : (cut20 x).length ≤ 20 := by
  show ((x.cps.toList.take 20).toArray).size ≤ 20
  simp; omega

section
variable {prog : Program} {w : World} {A : Around} {E : Value → Shared → Prop} {h : Heap} {g : Array GenState} {d : Drawn} {t : Nat} {os : OsState}

def spec20 : Float.FormatSpec := { align := 60, precision := some 20 }
theorem parse20 : Float.parseFormatSpec (Str.ofString ".20").cps.toList "str" 60 = .ok spec20 := by kernel_rfl

theorem fmt20 {x : Str} {tx u : Tok} {Q : Fin → Shared → Prop} (hq : ∀ k tk, Q (.done (.ret (.str (cut20 x) k))) ⟨h, g, d, tk, os⟩) :
    wpAny (model prog w) A (Builtin.«str.__format__» ⟨[.str x tx, .str (Str.ofString ".20") u], []⟩) Q E ⟨h, g, d, t, os⟩ := by
  unfold Builtin.«str.__format__»
  wp_walk
  rw [show ((Manifest.find? "str").elim "str" fun x => x.tpName) = "str" by kernel_rfl, parse20]
  have hf : strField x spec20 "str" = (if decide (20 ≥ x.length) = true then .ok none else .ok (some (padded (strSub x 0 20) (if ((60 : Nat) == 62) = true then 0 - (strSub x 0 20).length else if ((60 : Nat) == 94) = true then (0 - (strSub x 0 20).length) / 2 else 0) ((0 - (strSub x 0 20).length) - (if ((60 : Nat) == 62) = true then 0 - (strSub x 0 20).length else if ((60 : Nat) == 94) = true then (0 - (strSub x 0 20).length) / 2 else 0)) 32))) := rfl
  have hp : ∀ y : Str, padded y 0 0 32 = y := fun y => str_ext (by simp [padded])
  have hf2 : strField x spec20 "str" = .ok (if x.length ≤ 20 then none else some (cut20 x)) := by
    rw [hf]
    simp only [show ((60 : Nat) == 62) = false from rfl, show ((60 : Nat) == 94) = false from rfl, Bool.false_eq_true, if_false, Nat.zero_sub, hp, cut20_sub]
    by_cases hx : x.length ≤ 20 <;> simp [hx]
  have hc : (do
      let f ← (.ok spec20 : Except String Float.FormatSpec)
      have f : Float.FormatSpec :=
        if (f.type.isNone && (Str.ofString ".20").cps.back? == some 0) = true then
          { fill := f.fill, align := f.align, sign := f.sign, noNeg0 := f.noNeg0, alt := f.alt, width := f.width,
            grouping := f.grouping, precision := f.precision, type := some 0 }
        else f
      if tooLong (f.width.getD 0) = true then pure none
        else do
          let r ← strField x f "str"
          pure (some r)) = (.ok (some (if x.length ≤ 20 then none else some (cut20 x))) : Except String (Option (Option Str))) := by
    show (do let r ← strField x spec20 "str"; pure (some r) : Except String (Option (Option Str))) = _
    rw [hf2]; rfl
  rw [hc]
  by_cases hx : x.length ≤ 20
  · rw [if_pos hx]
    wp_walk
    have := hq tx t
    rw [cut20_short hx] at this
    exact this
  · rw [if_neg hx]
    have hl := cut20_len x
    have hsl : sizeLine = 16777216 := rfl
    show wpAny _ _ (retStr (cut20 x)) _ _ _
    unfold retStr
    exact wpAny_bind (wpAny_mkStr' (wpAny_pure (hq _ _)) (by omega))

theorem fmtField20 {x : Str} {tx : Tok} {Q : Value → Shared → Prop} (hq : ∀ k tk, Q (.str (cut20 x) k) ⟨h, g, d, tk, os⟩) :
    wpAny (model prog w) A (formatField (.str x tx) (Str.ofString ".20")) Q E ⟨h, g, d, t, os⟩ := by
  have e : formatField (.str x tx) (Str.ofString ".20") = holding [.str x tx] (pyFormat (.str x tx) (Str.ofString ".20")) := by
    have hne : ((Str.ofString ".20").length == 0) = false := by decide +kernel
    unfold formatField
    simp only [hne, Bool.false_eq_true, if_false] <;> rfl
  rw [e]
  refine wpAny_holding ?_
  unfold pyFormat
  refine wpAny_bind (wpAny_mkStr' ?_ (by decide +kernel))
  refine wpAny_bind (m := callSpecial? (.str x tx) (Str.ofString "__format__") [.str (Str.ofString ".20") t]) (wpAny_callSpecial?_slot (name := Str.ofString "__format__") (typeIs_str _ _ _) F.slot_str_format (wpAny_call (codeAny_call_builtin F.slot_str_format.plain F.entry_str_format
    (F.slot_str_format.check _ _ _ _ _ _ _ _ (typeIs_str _ _ _) (F.args_str_format_2 _ _) (fmt20 fun k tk => ?_)))))
  show wpAny _ _ _ _ _ _
  dsimp only
  exact wpAny_bind (wpAny_isInstance (T := "str") (b := true) (typeIs_str _ _ _) isSubtype_str_str (wpAny_pure (hq _ _)))

theorem FmtVal_r20 {env : Env} {value : PySem.Expr} {pos pos2 : Pos} {k : Nat} {Q : Value → Shared → Prop} {s : Shared}
    (hv : wpAny (model prog w) A (eval value env) (fun v s₁ => ∃ x tx, v = .str x tx ∧ (reprText x).length ≤ sizeLine ∧ ∀ k' tk, Q (.str (cut20 (reprText x)) k') { s₁ with toks := tk }) E s) :
    wpAny (model prog w) A (eval (.FormattedValue value 114 (some (.Constant (.str ".20") k pos2)) pos) env) Q E s := by
  rw [arm_eval_FormattedValue]
  refine wpAny_bind (wpAny_mono hv (fun v s₁ h₁ => ?_) fun _ _ x => x)
  obtain ⟨x, tx, rfl, hl, hq⟩ := h₁
  refine wpAny_bind (wpAny_standAt ?_)
  refine wpAny_bind (wpAny_holding ?_)
  show wpAny _ _ (pyReprObj (.str x tx)) _ _ _
  refine pyReprObj_str ?_ hl
  show wpAny _ _ (do
    let r ← holding [Value.str (reprText x) s₁.toks] (eval (.Constant (.str ".20") k pos2) env)
    match r with
    | .str sp _ => (do standAt pos; formatField (Value.str (reprText x) s₁.toks) sp)
    | _ => unsupported "internal:format-spec") Q E _
  refine wpAny_bind (wpAny_holding (Calls.Constant_str ?_))
  dsimp only
  exact wpAny_bind (wpAny_standAt (fmtField20 fun k' tk => hq k' tk))
end
end Mine
end
section
open PySem PySem.W PyProof.Rows
open PySem.Builtin PySem.Builtin.Str
namespace Mine

theorem entry_unchain : entryFor table "proto.unchain" = some Builtin.«proto.unchain» := entryFor_of_tree (by kernel_rfl)

section
variable {prog : Program} {w : World} {A : Around} {E : Value → Shared → Prop} {h : Heap} {g : Array GenState} {d : Drawn} {t : Nat} {os : OsState} {env : Env}

theorem raiseNew_in {e e1 : Addr} {cls cls1 : Value} {dd dd1 : Option Addr} {sl sl1 : Array (Option Value)} {vs vs1 : Array Value} {α : Type} {Q : α → Shared → Prop}
    (hh : A.handled = some (.ref e1)) (hne : e ≠ e1) (he : h.get? e = some ⟨cls, dd, .fields vs, sl⟩) (h2 : 2 < vs.size)
    (he1 : h.get? e1 = some ⟨cls1, dd1, .fields vs1, sl1⟩) (h12 : vs1[2]? = some .none)
    (hE : ∀ h', Up1 e h h' → h'.get? e = some ⟨cls, dd, .fields (vs.setIfInBounds 2 (.ref e1)), sl⟩ → E (.ref e) ⟨h', g, d, t, os⟩) :
    wpAny (model prog w) A (raiseNew (.ref e) : Sem α) Q E ⟨h, g, d, t, os⟩ := by
  unfold raiseNew
  refine wpAny_bind (wpAny_handled ?_)
  rw [hh]
  dsimp only
  rw [if_pos (by simp [Ne.symm hne])]
  refine wpAny_bind (wpAny_holding (wpAny_runValue (codeAny_builtin entry_unchain ?_)))
  unfold Builtin.«proto.unchain»
  dsimp only
  refine wpAny_bind (wpAny_field (s := ⟨h, g, d, t, os⟩) he1 rfl h12 ?_)
  rw [if_pos (show (Value.none == Value.none) = true from rfl)]
  refine wpAny_pure ?_
  dsimp only
  refine wpAny_bind ?_
  show wpAny (model prog w) A (setField (.ref e) 2 (.ref e1)) _ _ _
  exact wp_setField he h2 fun h' u e' => wpAny_throw (hE h' u e')

theorem raise_from_none {e1 : Addr} {x c : Sem Value} {Q : Flow → Shared → Prop} {s : Shared}
    (hh : A.handled = some (.ref e1)) (hc : ∀ (s : Shared) (Q : Value → Shared → Prop), Q .none s → wpAny (model prog w) A c Q E s)
    (hx : wpAny (model prog w) A x (fun v s₁ => ∃ (e t : Addr) (en ob re : Str) (i j : Int) (t1 t2 t5 : Tok) (cls1 : Value) (dd1 : Option Addr) (sl1 : Array (Option Value)) (vs1 : Array Value), v = .ref e ∧ e ≠ e1 ∧ s₁.heap.get? e = some (ueObj t .none .none .none (.bool false) en ob re i j t1 t2 t5) ∧
      s₁.heap.get? e1 = some ⟨cls1, dd1, .fields vs1, sl1⟩ ∧ vs1[2]? = some .none ∧
      ∀ h', Up1 e s₁.heap h' → h'.get? e = some (ueObj t .none (.ref e1) .none (.bool true) en ob re i j t1 t2 t5) → E (.ref e) { s₁ with heap := h' }) E s) :
    wpAny (model prog w) A (raiseStmt env (some x) (some c)) Q E s := by
  unfold raiseStmt
  refine wpAny_bind (wpAny_mono hx (fun v s₁ h₁ => ?_) fun _ _ x => x)
  obtain ⟨e, t, en, ob, re, i, j, t1, t2, t5, cls1, dd1, sl1, vs1, rfl, hne, he, he1, h12, hE⟩ := h₁
  obtain ⟨hp, g, d, tk, os⟩ := s₁
  refine wpAny_bind (wpAny_holding (hc _ _ ?_))
  refine wpAny_bind (wpAny_pure ?_)
  dsimp only
  have hsub := ue_raise.isExc
  have hmeta := ue_raise.plainMeta
  refine wpAny_bind (wpAny_holding ?_)
  unfold excFromValue isExcClass
  have hT : (⟨hp, g, d, tk, os⟩ : Shared).TypeIs (.ref e) "UnicodeEncodeError" := ⟨_, he, rfl⟩
  wp_step
  wp_step
  iterate 12 (first | with_reducible refine wpAny_loadPart_at he ?_ | wp_step)
  rw [if_pos (show (Value.none == Value.none) = true from rfl)]
  refine wpAny_bind (wpAny_pure ?_)
  refine wpAny_bind (wp_setField he (by simp) fun h3 u3 e3 => ?_)
  replace e3 : h3.get? e = some (ueObj t .none .none .none (.bool false) en ob re i j t1 t2 t5) := e3
  refine wpAny_bind (wp_setField e3 (by simp) fun h4 u4 e4 => ?_)
  replace e4 : h4.get? e = some (ueObj t .none .none .none (.bool true) en ob re i j t1 t2 t5) := e4
  have hT4 : (⟨h4, g, d, tk, os⟩ : Shared).TypeIs (.ref e) "UnicodeEncodeError" := ⟨_, e4, rfl⟩
  have u := u3.trans u4
  unfold isType loadHead
  iterate 5 (first | with_reducible refine wpAny_loadPart_at e4 ?_ | wp_step)
  unfold raisedInstance
  iterate 10 (first | with_reducible refine wpAny_loadPart_at e4 ?_ | wp_step)
  refine wpAny_bind (wpAny_field (s := ⟨h4, g, d, tk, os⟩) e4 rfl (x := .none) rfl ?_)
  rw [if_neg (show ¬ ((Value.none != Value.none) = true) by decide)]
  refine wpAny_pure ?_
  refine raiseNew_in hh hne e4 (by simp) ((u.same _ (Ne.symm hne)).trans he1) h12 fun h5 u5 e5 => ?_
  exact hE h5 (u.trans u5) e5

theorem habit_str {M : Model} {s : Shared} {row : String} {x : Str} {k : Tok} {Q : Value → Shared → Prop} (hx : x.length ≤ sizeLine) (hq : ∀ k tk, Q (.str x k) { s with toks := tk }) : wpAny M A (habitSame row (.str x k)) Q E s :=
  wpAny_habitSame_str (hq _ s.toks) (hq _ _) hx
theorem fmtField_str {s : Shared} {x : Str} {k : Tok} {Q : Value → Shared → Prop} (hx : x.length ≤ sizeLine) (hq : ∀ k tk, Q (.str x k) { s with toks := tk }) : wpAny (model prog w) A (formatField (.str x k) Str.empty) Q E s :=
  wpAny_formatField_str (hq _ s.toks) (hq _ _) hx
theorem FmtVal_s {s : Shared} {value : PySem.Expr} {pos : Pos} {Q : Value → Shared → Prop}
    (hv : wpAny (model prog w) A (eval value env) (fun v s₁ => ∃ x tx, v = .str x tx ∧ x.length ≤ sizeLine ∧ ∀ k tk, Q (.str x k) { s₁ with toks := tk }) E s) :
    wpAny (model prog w) A (eval (.FormattedValue value 115 none pos) env) Q E s := by
  refine wpAny_FormattedValue_s (wpAny_mono hv (fun v s₁ h₁ => ?_) fun _ _ x => x)
  obtain ⟨x, tx, rfl, hx, hq⟩ := h₁
  show wpAny _ _ (habitSame "fstring-hands-on-the-str" (.str x tx)) _ _ _
  exact habit_str hx fun k tk => fmtField_str hx fun k2 tk2 => hq k2 tk2
end
end Mine
end
section
open PySem PySem.W PyProof.Rows
open PySem.Builtin PySem.Builtin.Str
namespace Mine

abbrev pw : Program := PySem.Challenge.pw_km0023_07
def stmtAt (i : Nat) : Stmt := (pw.main.body[i]?).getD (.Pass ⟨0, 0, 0, 0⟩)
def bodyOf : Stmt → List Stmt
  | .FunctionDef _ _ body _ _ _ _ _ _ _ => body
  | _ => []
def scopeOf : Stmt → Scope
  | .FunctionDef _ _ _ _ _ _ scope _ _ _ => scope
  | _ => default
def paramsOf : Stmt → Arguments
  | .FunctionDef _ args _ _ _ _ _ _ _ _ => args
  | _ => default
def encBody : List Stmt := bodyOf (stmtAt 1)
def encScope : Scope := scopeOf (stmtAt 1)
def encParams : Arguments := paramsOf (stmtAt 1)
abbrev envE (L f : Addr) (cd : Value) : Env := envOf (Str.ofString "_encode") encScope L f cd

structure Names (B : Heap) : Prop where
  ex : ∃ mg mb, B.Ns mainGlobals mg ∧ mg "UnicodeEncodeError" = none ∧ B.Ns builtinsNs mb ∧ mb "UnicodeEncodeError" = some (.type "UnicodeEncodeError")

def mid (x : Str) (a b : Nat) : Str := ⟨((x.cps.toList.drop a).take (b - a)).toArray⟩
theorem slice_mid (x : Str) {a b : Nat} (hab : a ≤ b) (hb : b ≤ x.length) : Txt.slice x (some (a : Int)) (some (b : Int)) = mid x a b := StrLaws.sliceText_nat x hab hb
theorem lo_le_hi (l : List Nat) : lo l ≤ hi l := by unfold hi; omega
theorem mid_len (x : Str) (a b : Nat) : (mid x a b).length ≤ x.length := by
  show ((x.cps.toList.drop a).take (b - a)).toArray.size ≤ x.cps.size
  simp; omega
theorem mid_mem {x : Str} {a b c : Nat} (h : c ∈ (mid x a b).cps.toList) : c ∈ x.cps.toList := by
  have : c ∈ (x.cps.toList.drop a).take (b - a) := by simpa [mid] using h
  exact List.mem_of_mem_drop (List.mem_of_mem_take this)
def Fine (x : Str) : Prop := x.length ≤ 100000 ∧ ∀ c ∈ x.cps.toList, c < 16 ^ 8
theorem Fine.mid {x : Str} (h : Fine x) (a b : Nat) : Fine (mid x a b) := ⟨Nat.le_trans (mid_len x a b) h.1, fun c hc => h.2 c (mid_mem hc)⟩

def encWords (n x : Str) : Str :=
  Str.empty ++ Txt.title n ++ Str.ofString " (" ++ cut20 (reprText (mid x (lo x.cps.toList) (hi x.cps.toList))) ++ Str.ofString ") is not valid Latin-1. Use " ++ n ++
    Str.ofString ".encode('utf-8') if you want to send it encoded in UTF-8."

section
variable {prog : Program} {w : World} {A : Around} {E : Value → Shared → Prop} {h : Heap} {g : Array GenState} {d : Drawn} {tk : Nat} {os : OsState} {B S : Heap} {L f : Addr} {cd : Value} {outer : List Env} {m : Str → Option Value} {Q : Flow → Shared → Prop}
  {x n : Str} {tx tn : Tok}

structure Inv (B S : Heap) (outer : List Env) (L : Addr) (m : Str → Option Value) (h : Heap) : Prop where
  F : Fr B L h m
  K : Tch [] (outer.filterMap (·.frame)) S h

structure Und (B S : Heap) (outer : List Env) (L : Addr) : Prop where
  bs : B.StaysIn S
  bo : ∀ a ∈ outer.filterMap (·.frame), B.get? a = none
  sl : S.get? L = none
  so : S.FunFrames noHeap outer

theorem Und.bn (U : Und B S outer L) {a : Addr} (e : S.get? a = none) : B.get? a = none := by
  cases q : B.get? a with
  | none => rfl
  | some o => have := U.bs a o q; rw [e] at this; cases this
theorem Und.bl (U : Und B S outer L) : B.get? L = none := U.bn U.sl

theorem Inv.ff {env : Env} {h : Heap} (U : Und B S outer L) (hk : env.scope.kind ≠ .module) (hf : env.frame = some L) (I : Inv B S outer L m h) : h.FunFrames noHeap (env :: outer) :=
  Heap.FunFrames.cons hk hf I.F.ns (noHeap_get L) (I.K.ff (fun a ha => nomatch ha) U.so)
theorem Inv.fresh {h : Heap} (I : Inv B S outer L m h) {a : Addr} (e : h.get? a = none) : S.get? a = none := I.K.none e

theorem Inv.step {h h' : Heap} {xs : List Addr} (U : Und B S outer L) (I : Inv B S outer L m h) (x : Tch xs (L :: outer.filterMap (·.frame)) h h')
    (hx : ∀ a ∈ xs, S.get? a = none ∧ ∀ o, h.get? a = some o → ∃ vs, o.data = .fields vs) : Inv B S outer L m h' := by
  have hLx : L ∉ xs := fun q => by
    obtain ⟨o, es, ep, ho, hd, _⟩ := I.F.ns
    obtain ⟨vs, hv⟩ := (hx L q).2 o ho
    rw [hd] at hv; cases hv
  refine ⟨⟨x.ns hLx I.F.ns, fun b o hb => x.keep b o (I.F.keep b o hb) (fun q => ?_) (fun q => ?_), I.F.above⟩, I.K.fresh (xs := L :: xs) ⟨fun b o eb n m' => x.keep b o eb (fun q => n (.tail _ q)) (fun q => ?_), fun b o eb n m' => x.slot b o eb (fun q => n (.tail _ q)) (.tail _ m')⟩ (fun a ha => ?_)⟩
  · rw [U.bn (hx b q).1] at hb; cases hb
  · rcases List.mem_cons.mp q with rfl | q
    · rw [U.bl] at hb; cases hb
    · rw [U.bo b q] at hb; cases hb
  · rcases List.mem_cons.mp q with rfl | q
    · exact n (.head _)
    · exact m' q
  · rcases List.mem_cons.mp ha with rfl | ha
    · exact U.sl
    · exact (hx a ha).1
theorem Inv.stays {h h' : Heap} (U : Und B S outer L) (I : Inv B S outer L m h) (k : h.StaysIn h') : Inv B S outer L m h' :=
  I.step U (xs := []) (Tch.of_stays k) fun a ha => nomatch ha
theorem Inv.up1 {h h' : Heap} {a : Addr} (U : Und B S outer L) (I : Inv B S outer L m h) (u : Up1 a h h') (ha : S.get? a = none) (hv : ∀ o, h.get? a = some o → ∃ vs, o.data = .fields vs) : Inv B S outer L m h' :=
  I.step U (xs := [a]) (Tch.of_up1 u (List.mem_singleton.mpr rfl)) fun b hb => by rw [List.mem_singleton.mp hb]; exact ⟨ha, hv⟩
theorem Inv.store {h h' : Heap} {m' : Str → Option Value} (U : Und B S outer L) (I : Inv B S outer L m h) (hn : h'.Ns L m') (hs : Heap.SameBut L h h') : Inv B S outer L m' h' :=
  ⟨I.F.set hn hs, I.K.fresh (xs := [L]) ⟨fun b o e n _ => (hs.2 b fun q => n (by rw [q]; exact .head _)).trans e, fun b o e n _ => ⟨o.slots, (hs.2 b fun q => n (by rw [q]; exact .head _)).trans e⟩⟩ (fun a ha => by rw [List.mem_singleton.mp ha]; exact U.sl)⟩

theorem ue_notTuple : isSubtype (.type ((Manifest.find? "UnicodeEncodeError").elim "type" fun x => x.metatype)) (.type "tuple") = pure false := by
  rw [show ((Manifest.find? "UnicodeEncodeError").elim "type" fun x => x.metatype) = "type" from by kernel_rfl, isSubtype_type]; kernel_rfl

theorem ld_uee {A : Around} {s : Shared} {pos : Pos} {Q : Value → Shared → Prop} (F : Fr B L s.heap m) (N : Names B) (hq : Q (.type "UnicodeEncodeError") s) :
    wpAny (model prog w) A (eval (.Name "UnicodeEncodeError" pos) (envE L f cd)) Q E s := by
  obtain ⟨mg, mb, hg, hmiss, hb, hv⟩ := N.ex
  exact ld_builtin_at F hg hmiss hb hv hq

theorem evalArgs_star {A : Around} {s : Shared} {env : Env} {fv : Value} {e : PySem.Expr} {rest : List PySem.Expr} {pos : Pos} {Q : Args → Shared → Prop}
    (hq : wpAny (model prog w) A (spliced (backTo pos (starEach (e :: rest) env))) (fun vs s' => Q ⟨vs, []⟩ s') E s)
    (he : starEach (e :: rest) env = (false, eval e env) :: starEach rest env := by rfl) :
    wpAny (model prog w) A (evalArgs fv true (backTo pos (starEach (e :: rest) env)) []) Q E s := by
  rw [he] at hq ⊢
  exact Calls.evalArgs_plain hq

theorem enc_flight {e1 e2 t7 : Addr} {en re : Str} {i j : Int} {q1 q2 q5 p3 p4 : Tok} {n0 : Str} {pos : Pos}
    (hfr : A.frames = some outer) (U : Und B S outer L) (I8 : Inv B S outer L m h) (hlo : (envE L f cd).kindOf n0 = some .local) (se2 : S.get? e2 = none)
    (ex8 : h.get? e2 = some (ueObj t7 .none (.ref e1) .none (.bool true) en x re i j q1 q2 q5))
    (tu8 : h.get? t7 = some { cls := .type "tuple", data := .seq (ueArgs en x re i j q1 q2 p3 p4 q5).toArray }) (tF : t7 ∉ (envE L f cd :: outer).filterMap (·.frame))
    (hE : ∀ h' T m' tk, Inv B S outer L m' h' → UeAt h' e2 (.ref t7) (.ref T) (.ref e1) .none (.bool true) .none en x re i j q1 q2 q5 → T ≠ e2 → S.get? T = none → TB h' T (rawInt L) →
      h'.get? t7 = some { cls := .type "tuple", data := .seq (ueArgs en x re i j q1 q2 p3 p4 q5).toArray } → E (.ref e2) ⟨h', g, d, tk, os⟩) :
    AsSuiteRaised (model prog w) ((A.deeper (envE L f cd)).mark (some (.ref e1))) (envE L f cd) n0 pos (notedBy (model prog w) ((A.deeper (envE L f cd)).mark (some (.ref e1))) (envE L f cd) (cameBackBy (model prog w) (A.deeper (envE L f cd)) (envE L f cd) E))
      (.ref e2) ⟨h, g, d, tk, os⟩ := by
  have hkm : (envE L f cd).scope.kind ≠ .module := by show encScope.kind ≠ .module; decide
  have hte : t7 ≠ e2 := fun q => by rw [q, ex8] at tu8; have := congrArg Obj.data (Option.some.inj tu8); cases this
  have hfr'' : ((A.deeper (envE L f cd)).mark (some (.ref e1))).frames = some (envE L f cd :: outer) := Around.frames_deeper hfr
  refine note_first hfr'' (I8.ff U hkm rfl) rfl ex8 rfl fun h9 Tb2 T9 hl9 hTn9 hTe9 ex9 tb9 => ?_
  have hfld8 : ∀ o, h.get? e2 = some o → ∃ vs, o.data = .fields vs := fun o ho => by rw [ex8] at ho; cases ho; exact ⟨_, rfl⟩
  have I9 := I8.step U T9 (by intro a ha; rw [List.mem_singleton.mp ha]; exact ⟨se2, hfld8⟩)
  replace ex9 : UeAt h9 e2 (.ref t7) (.ref Tb2) (.ref e1) .none (.bool true) .none en x re i j q1 q2 q5 := ex9
  have tu9 := T9.keep t7 _ tu8 (by simpa using hte) tF
  refine wpAny_nameGoes (env := envE L f cd) hlo I9.F.ns (by rfl) fun h10 m10 hn10 hs10 => ?_
  have I10 := I9.store U hn10 hs10
  have notL : ∀ {h : Heap} {m : Str → Option Value} {a : Addr} {o : Obj}, h.Ns L m → h.get? a = some o → (∀ es n, o.data ≠ .dict es n) → a ≠ L := fun hns ho hd' q => by
    obtain ⟨o', es, ep, ho', hd2, _⟩ := hns
    rw [q, ho'] at ho; cases ho; exact hd' _ _ hd2
  have ex10 := (hs10.2 e2 (notL I9.F.ns ex9 (fun _ _ q => by cases q))).trans ex9
  have tu10 := (hs10.2 t7 (notL I9.F.ns tu9 (fun _ _ q => by cases q))).trans tu9
  have tb10 : TB h10 Tb2 (rawInt L) := by
    obtain ⟨oT, ts, a1, a2, a3⟩ := tb9
    exact ⟨oT, ts, (hs10.2 Tb2 (notL I9.F.ns a1 (fun _ _ q => by rw [a2] at q; cases q))).trans a1, a2, a3⟩
  have sT2 := I8.fresh hTn9
  dsimp only
  unfold PySem.passOn
  refine wpAny_bind (wpAny_field ex10 rfl (x := .ref Tb2) rfl ?_)
  rw [if_neg (show ¬ ((Value.ref Tb2 == Value.none) = true) by simp)]
  refine wpAny_bind (set_flight ex10 (T := Tb2) rfl tb10 fun h11 u11 tb11 => wpAny_throw ?_)
  have tT : t7 ≠ Tb2 := fun q => by
    obtain ⟨oT, ts, a1, a2, _⟩ := tb10
    rw [← q, tu10] at a1; cases a1; cases a2
  have I11 := I10.up1 U u11 sT2 tb10.fields
  have ex11 := (u11.same e2 (Ne.symm hTe9)).trans ex10
  have tu11 := (u11.same t7 tT).trans tu10
  refine note_again (T := Tb2) rfl ex11 rfl tb11 ?_
  refine wpAny_bind (wpAny_field ex11 rfl (x := .ref Tb2) rfl ?_)
  rw [if_neg (show ¬ ((Value.ref Tb2 == Value.none) = true) by simp)]
  refine set_flight ex11 (T := Tb2) rfl tb11 fun h12 u12 tb12 => ?_
  exact hE h12 Tb2 _ _ (I11.up1 U u12 sT2 tb11.fields) ((u12.same e2 (Ne.symm hTe9)).trans ex11) hTe9 sT2 tb12 ((u12.same t7 tT).trans tu11)

theorem enc_body (hfr : A.frames = some outer) (hh : A.handled = none) (U : Und B S outer L) (I : Inv B S outer L m h) (N : Names B)
    (hd : m "data" = some (.str x tx)) (hn : m "name" = some (.str n tn)) (hx : Fine x) (hnl : n.length ≤ 100000)
    (hok : lo x.cps.toList = x.cps.toList.length → ∀ tk tk', Q (.ret (.bytes (x.cps.toList.map (·.toUInt8)).toArray tk')) ⟨h, g, d, tk, os⟩)
    (hbad : lo x.cps.toList < x.cps.toList.length → ∀ h' e t T cx t1 t2 t3 t4 t5 tk, (∃ m', Inv B S outer L m' h') → S.get? e = none → S.get? t = none →
      UeAt h' e (.ref t) (.ref T) cx .none (.bool true) .none (Str.ofString "latin-1") x (encWords n x) (lo x.cps.toList) (hi x.cps.toList) t1 t2 t5 → T ≠ e → S.get? T = none → TB h' T (rawInt L) →
      h'.get? t = some { cls := .type "tuple", data := .seq (ueArgs (Str.ofString "latin-1") x (encWords n x) (lo x.cps.toList) (hi x.cps.toList) t1 t2 t3 t4 t5).toArray } → E (.ref e) ⟨h', g, d, tk, os⟩) :
    wpAny (model prog w) (A.deeper (envE L f cd)) (execs encBody (envE L f cd)) Q E ⟨h, g, d, tk, os⟩ := by
  have hsl : sizeLine = 16777216 := rfl
  refine wpAny_execs_cons (wpAny_Try_except ?_)
  refine wpAny_execs_cons (wpAny_Return_some (MethodCall_ (ld I.F hd (gm_encode ?_))))
  refine callWith_method1 ?_
  refine spliced_more (Calls.Constant_str (spliced_none ?_))
  refine call_encode hh (by have := hx.1; omega) (fun hlo tk' => ?_) (fun hlo h1 e1 t0 q1 q3 q4 q5 tk1 M1 => ?_)
  · exact hok hlo _ _
  · have hfr' : (A.deeper (envE L f cd)).frames = some (envE L f cd :: outer) := Around.frames_deeper hfr
    have hkm : (envE L f cd).scope.kind ≠ .module := by show encScope.kind ≠ .module; decide
    have I1 := I.stays U M1.keeps
    have se1 := I.fresh M1.new
    have st0 := I.fresh M1.newT
    refine note_first hfr' (I1.ff U hkm rfl) rfl M1.exc rfl fun h2 Tb1 T2 hl2 hTn2 hTe2 ex2 tb2 => ?_
    have I2 := I1.step U T2 (by intro a ha; rw [List.mem_singleton.mp ha]; exact ⟨se1, fun o ho => by rw [M1.exc] at ho; cases ho; exact ⟨_, rfl⟩⟩)
    have sT1 := I1.fresh hTn2
    refine set_flight ex2 (T := Tb1) rfl tb2 fun h3 u3 tb3 => ?_
    have I3 := I2.up1 U u3 sT1 tb2.fields
    have ex3 := (u3.same e1 (Ne.symm hTe2)).trans ex2
    replace ex3 : UeAt h3 e1 (.ref t0) (.ref Tb1) .none .none (.bool false) .none (Str.ofString "latin-1") x (Str.ofString "ordinal not in range(256)") (lo x.cps.toList) (hi x.cps.toList) q1 tx q5 := ex3
    refine wpAny_handleBy_builtin_as (X := "UnicodeEncodeError") (T := "UnicodeEncodeError") (b := true) ue_raise.isExc ue_notTuple ue_new.sub (ld_uee I3.F N ⟨rfl, ⟨_, ex3, rfl⟩, ?_⟩)
    rw [if_pos rfl]
    refine set_flight ex3 (T := Tb1) rfl tb3 fun h4 u4 tb4 => ?_
    have I4 := I3.up1 U u4 sT1 tb3.fields
    have ex4 := (u4.same e1 (Ne.symm hTe2)).trans ex3
    refine wpAny_storeName_local (s := ⟨h4, g, d, _, os⟩) (env := envE L f cd) (by rfl) I4.F.ns (fun h5 hn5 hs5 => ?_) (by rfl)
    have I5 := I4.store U hn5 hs5
    have e1L : e1 ≠ L := fun q => by
      obtain ⟨o, es, ep, ho, hd', _⟩ := I4.F.ns
      rw [← q, ex4] at ho; cases ho; cases hd'
    have ex5 : UeAt h5 e1 (.ref t0) (.ref Tb1) .none .none (.bool false) .none (Str.ofString "latin-1") x (Str.ofString "ordinal not in range(256)") (lo x.cps.toList) (hi x.cps.toList) q1 tx q5 := (hs5.2 e1 e1L).trans ex4
    refine wpAny_execs_cons ?_
    rw [arm_exec_Raise]
    refine wpAny_bind (wpAny_standAt ?_)
    refine raise_from_none (e1 := e1) rfl (fun s Q hq => wpAny_bind (wpAny_Constant_none (wpAny_bind (wpAny_standAt (wpAny_pure hq))))) (wpAny_bind ?_)
    refine wpAny_Call_ofName (ld_uee I5.F N (callWith_excType (by rfl) (evalArgs_star ?_)))
    refine spliced_more (Attribute_name (ld I5.F (by rfl) (at_encoding ex5 ?_)))
    refine spliced_more (Attribute_name (ld I5.F (by rfl) (at_object ex5 ?_)))
    refine spliced_more (Attribute_name (ld I5.F (by rfl) (at_start ex5 ?_)))
    refine spliced_more (Attribute_name (ld I5.F (by rfl) (at_end ex5 ?_)))
    refine spliced_more (wpAny_JoinedStr ?_)
    have hn5' : (fun y => if y = Str.ofString "err" then some (Value.ref e1) else m y) (Str.ofString "name") = some (.str n tn) := (if_neg (by decide)).trans hn
    have hd5' : (fun y => if y = Str.ofString "err" then some (Value.ref e1) else m y) (Str.ofString "data") = some (.str x tx) := (if_neg (by decide)).trans hd
    have hlx : x.cps.toList.length = x.length := Array.length_toList
    have hhi := hi_le x.cps.toList
    have hr := StrLaws.reprText_len (mid x (lo x.cps.toList) (hi x.cps.toList)) (hx.mid _ _).2
    have hr2 := mid_len x (lo x.cps.toList) (hi x.cps.toList)
    have hx1 := hx.1
    have hc20 := cut20_len (reprText (mid x (lo x.cps.toList) (hi x.cps.toList)))
    have z0 : Str.empty.length = 0 := rfl
    have z1 : (Str.ofString " (").length = 2 := by decide +kernel
    have z2 : (Str.ofString ") is not valid Latin-1. Use ").length = 28 := by decide +kernel
    have z3 : (Str.ofString ".encode('utf-8') if you want to send it encoded in UTF-8.").length = 57 := by decide +kernel
    refine FmtVal_s (MethodCall_ (ld I5.F hn5' (GM.title (callWith_method0 (SCL.title (by omega) fun hti => ?_)))))
    refine ⟨_, _, rfl, by omega, fun k tk => ⟨_, _, rfl, by simp only [Str.length_append]; omega, Calls.Constant_str ⟨_, _, rfl, by simp only [Str.length_append]; omega, FmtVal_r20 ?_⟩⟩⟩
    refine Subscript_Slice (ld I5.F hd5' (wpAny_Slice (evalPart_some_step (Attribute_name (ld I5.F (by rfl) (at_start ex5 (evalPart_some_step (Attribute_name (ld I5.F (by rfl) (at_end ex5 (evalPart_none_step ?_))))))))))) 
    refine SBH.sliceItem_ss (P := fun h' => h5.StaysIn h') (fun h' ob k b o e => Heap.get?_push_of_some _ (k b o e)) (fun _ _ e => e) (fun h6 t6 k6 K6 => ?_) (by omega)
    rw [slice_mid x (lo_le_hi _) (by omega)]
    have I6 := I5.stays U K6
    have ex6 := K6 _ _ ex5
    refine ⟨_, _, rfl, by omega, fun k7 tk7 => ⟨_, _, rfl, by simp only [Str.length_append]; omega, Calls.Constant_str ⟨_, _, rfl, by simp only [Str.length_append]; omega, FmtVal_s (ld I6.F hn5' ⟨_, _, rfl, by omega, fun k8 tk8 => ⟨_, _, rfl, by simp only [Str.length_append]; omega,
      Calls.Constant_str ⟨_, _, rfl, by simp only [Str.length_append]; omega, ⟨by simp only [Str.length_append]; omega, spliced_none ?_⟩⟩⟩⟩)⟩⟩⟩
    refine ue_call (hp := h6) ⟨by omega, by omega⟩ ⟨by omega, by omega⟩ fun h7 e2 t7 M7 => ?_
    have hne : e2 ≠ e1 := fun q => by have := M7.new; rw [q, ex6] at this; cases this
    have ex7 := M7.keeps _ _ ex6
    have I7 := I6.stays U M7.keeps
    have se2 := I6.fresh M7.new
    have st7 := I6.fresh M7.newT
    refine wpAny_bind (wpAny_standAt (wpAny_pure ⟨e2, t7, _, _, _, _, _, _, _, _, _, _, _, _, rfl, hne, M7.exc, ex7, rfl, fun h8 u8 ex8 => ?_⟩))
    have I8 := I7.up1 U u8 se2 (fun o ho => by rw [M7.exc] at ho; cases ho; exact ⟨_, rfl⟩)
    have hte : t7 ≠ e2 := fun q => by have := M7.tup; rw [q, M7.exc] at this; have := congrArg Obj.data (Option.some.inj this); cases this
    have tu8 := (u8.same t7 hte).trans M7.tup
    refine enc_flight (m := fun y => if y = Str.ofString "err" then some (Value.ref e1) else m y) hfr U I8 (by rfl) se2 ex8 tu8 (fun hm => ?_) fun h' T m' tk' I' ue' hT sT tb' tu' => ?_
    · obtain ⟨_, o, ho, _⟩ := (I6.ff U hkm rfl).mem hm
      have := M7.newT; rw [ho] at this; cases this
    · exact hbad hlo h' e2 t7 T (.ref e1) _ _ _ _ _ tk' ⟨m', I'⟩ se2 st7 ue' hT sT tb' tu'


abbrev encFd (dV kV doc pm cdv ct : Value) (an : Option Addr) : FuncData := fnOf (Str.ofString "_encode") (Str.ofString "_encode") encParams encBody encScope dV kV doc pm an cdv ct
def EncFn (B : Heap) (f : Addr) : Prop := ∃ (o oT : Obj) (T : Addr) (kV doc pm cdv ct : Value) (an : Option Addr) (kt : Tok), B.get? f = some o ∧
  o.data = .func (encFd (.ref T) kV doc pm cdv ct an) ∧ B.CodeRec cdv (Str.ofString "_encode") ∧ B.get? T = some oT ∧ oT.data = .seq #[.str (Str.ofString "data") kt] 0

theorem enc_call_by {s : Shared} {args : Args} {R : Result → Shared → Prop} {o : Obj} {dV kV doc pm cdv ct : Value} {an : Option Addr} (hfr : A.frames = some outer) (hh : A.handled = none) (hroom : A.depth < recursionLimit)
    (bs : B.StaysIn s.heap) (hsz : B.objs.size ≤ s.heap.objs.size) (bo : ∀ a ∈ outer.filterMap (·.frame), B.get? a = none) (so : s.heap.FunFrames noHeap outer) (N : Names B) (hlim : B.NoLimit)
    (ho : B.get? f = some o) (hd : o.data = .func (encFd dV kV doc pm cdv ct an)) (hcd : B.CodeRec cdv (Str.ofString "_encode"))
    (hbind : BindsTo s (encFd dV kV doc pm cdv ct an) args [(Str.ofString "data", .str x tx), (Str.ofString "name", .str n tn)]) (hx : Fine x) (hnl : n.length ≤ 100000)
    (hok : lo x.cps.toList = x.cps.toList.length → ∀ h' tk tk', Tch [] (outer.filterMap (·.frame)) s.heap h' → R (.ok (.ret (.bytes (x.cps.toList.map (·.toUInt8)).toArray tk'))) ⟨h', s.gens, s.drawn, tk, s.os⟩)
    (hbad : lo x.cps.toList < x.cps.toList.length → ∀ h' e t T cx t1 t2 t3 t4 t5 tk, Tch [] (outer.filterMap (·.frame)) s.heap h' → s.heap.get? e = none → s.heap.get? t = none → s.heap.get? T = none →
      UeAt h' e (.ref t) (.ref T) cx .none (.bool true) .none (Str.ofString "latin-1") x (encWords n x) (lo x.cps.toList) (hi x.cps.toList) t1 t2 t5 → T ≠ e → TB h' T .none →
      h'.get? t = some { cls := .type "tuple", data := .seq (ueArgs (Str.ofString "latin-1") x (encWords n x) (lo x.cps.toList) (hi x.cps.toList) t1 t2 t3 t4 t5).toArray } → R (.error (.ref e)) ⟨h', s.gens, s.drawn, tk, s.os⟩) :
    codeAny (model prog w) A (.call (.ref f) args) R s := by
  refine codeAny_call_def (fd := encFd dV kV doc pm cdv ct an) (body := encBody) hroom (bs _ _ ho) hd (hlim.keeps bs) (hcd.keeps bs) rfl hbind (show ∀ x ∈ encScope.names, x.2 ≠ .cell by decide) (locs (scope := encScope) (binds := [(Str.ofString "data", .str x tx), (Str.ofString "name", .str n tn)]) rfl) (fun h0 hns k0 => ?_) rfl rfl rfl
  have U : Und B s.heap outer s.heap.objs.size := ⟨bs, bo, Heap.get?_none_of_le (Nat.le_refl _), so⟩
  have I : Inv B s.heap outer s.heap.objs.size _ h0 := ⟨⟨hns, fun b o e => k0 b o (bs b o e), hsz⟩, Tch.of_stays k0⟩
  refine enc_body (L := s.heap.objs.size) (f := f) (cd := cdv) (m := _) hfr hh U I N rfl rfl hx hnl (fun hlo tk tk' => ?_) (fun hlo h' e t T cx t1 t2 t3 t4 t5 tk IE se st ue hT sT tb tu => ?_)
  · exact hok hlo _ _ _ I.K
  · obtain ⟨m', I'⟩ := IE
    unfold PySem.leaving
    refine wpAny_bind (note_again (T := T) rfl ue rfl tb ?_)
    refine set_flight ue (T := T) rfl tb fun h2 u2 tb2 => ?_
    have I2 := I'.up1 U u2 sT tb.fields
    refine hbad hlo h2 e t T cx t1 t2 t3 t4 t5 tk I2.K se st sT ((u2.same e (Ne.symm hT)).trans ue) hT tb2 ((u2.same t fun q => ?_).trans tu)
    obtain ⟨oT, ts, a1, a2, _⟩ := tb
    rw [← q, tu] at a1; cases a1; cases a2

theorem enc_call2 {s : Shared} {R : Result → Shared → Prop} (hf : EncFn B f) (hfr : A.frames = some outer) (hh : A.handled = none) (hroom : A.depth < recursionLimit)
    (bs : B.StaysIn s.heap) (hsz : B.objs.size ≤ s.heap.objs.size) (bo : ∀ a ∈ outer.filterMap (·.frame), B.get? a = none) (so : s.heap.FunFrames noHeap outer) (N : Names B) (hlim : B.NoLimit)
    (hx : Fine x) (hnl : n.length ≤ 100000)
    (hok : lo x.cps.toList = x.cps.toList.length → ∀ h' tk tk', Tch [] (outer.filterMap (·.frame)) s.heap h' → R (.ok (.ret (.bytes (x.cps.toList.map (·.toUInt8)).toArray tk'))) ⟨h', s.gens, s.drawn, tk, s.os⟩)
    (hbad : lo x.cps.toList < x.cps.toList.length → ∀ h' e t T cx t1 t2 t3 t4 t5 tk, Tch [] (outer.filterMap (·.frame)) s.heap h' → s.heap.get? e = none → s.heap.get? t = none → s.heap.get? T = none →
      UeAt h' e (.ref t) (.ref T) cx .none (.bool true) .none (Str.ofString "latin-1") x (encWords n x) (lo x.cps.toList) (hi x.cps.toList) t1 t2 t5 → T ≠ e → TB h' T .none →
      h'.get? t = some { cls := .type "tuple", data := .seq (ueArgs (Str.ofString "latin-1") x (encWords n x) (lo x.cps.toList) (hi x.cps.toList) t1 t2 t3 t4 t5).toArray } → R (.error (.ref e)) ⟨h', s.gens, s.drawn, tk, s.os⟩) :
    codeAny (model prog w) A (.call (.ref f) ⟨[.str x tx, .str n tn], []⟩) R s := by
  obtain ⟨o, oT, T, kV, doc, pm, cdv, ct, an, kt, ho, hd, hcd, hT, hTd⟩ := hf
  exact enc_call_by (tx := tx) (tn := tn) hfr hh hroom bs hsz bo so N hlim ho hd hcd (.of_defaults (T := T) (o := oT) (n := 0) rfl (bs _ _ hT) hTd rfl rfl) hx hnl hok hbad

theorem enc_call1 {s : Shared} {R : Result → Shared → Prop} (hf : EncFn B f) (hfr : A.frames = some outer) (hh : A.handled = none) (hroom : A.depth < recursionLimit)
    (bs : B.StaysIn s.heap) (hsz : B.objs.size ≤ s.heap.objs.size) (bo : ∀ a ∈ outer.filterMap (·.frame), B.get? a = none) (so : s.heap.FunFrames noHeap outer) (N : Names B) (hlim : B.NoLimit)
    (hx : Fine x)
    (hok : lo x.cps.toList = x.cps.toList.length → ∀ h' tk tk', Tch [] (outer.filterMap (·.frame)) s.heap h' → R (.ok (.ret (.bytes (x.cps.toList.map (·.toUInt8)).toArray tk'))) ⟨h', s.gens, s.drawn, tk, s.os⟩)
    (hbad : lo x.cps.toList < x.cps.toList.length → ∀ h' e t T cx t1 t2 t3 t4 t5 tk, Tch [] (outer.filterMap (·.frame)) s.heap h' → s.heap.get? e = none → s.heap.get? t = none → s.heap.get? T = none →
      UeAt h' e (.ref t) (.ref T) cx .none (.bool true) .none (Str.ofString "latin-1") x (encWords (Str.ofString "data") x) (lo x.cps.toList) (hi x.cps.toList) t1 t2 t5 → T ≠ e → TB h' T .none →
      h'.get? t = some { cls := .type "tuple", data := .seq (ueArgs (Str.ofString "latin-1") x (encWords (Str.ofString "data") x) (lo x.cps.toList) (hi x.cps.toList) t1 t2 t3 t4 t5).toArray } → R (.error (.ref e)) ⟨h', s.gens, s.drawn, tk, s.os⟩) :
    codeAny (model prog w) A (.call (.ref f) ⟨[.str x tx], []⟩) R s := by
  obtain ⟨o, oT, T, kV, doc, pm, cdv, ct, an, kt, ho, hd, hcd, hT, hTd⟩ := hf
  exact enc_call_by (n := Str.ofString "data") (tn := kt) hfr hh hroom bs hsz bo so N hlim ho hd hcd (.of_defaults (T := T) (o := oT) (n := 0) rfl (bs _ _ hT) hTd rfl rfl) hx (by decide +kernel) hok hbad
end
end Mine
end
section
open PySem PySem.W PyProof.Rows
open PySem.Builtin PySem.Builtin.Str
namespace Mine

def GlobalIs (B : Heap) (x : Str) (v : Value) : Prop := ∃ mg mb, B.Ns mainGlobals mg ∧ B.Ns builtinsNs mb ∧ (mg x = some v ∨ (mg x = none ∧ mb x = some v))
theorem GlobalIs.keeps {B h : Heap} {x : Str} {v : Value} (g : GlobalIs B x v) (k : B.StaysIn h) : GlobalIs h x v := by
  obtain ⟨mg, mb, a, b, c⟩ := g
  exact ⟨mg, mb, a.keeps k, b.keeps k, c⟩
def FnIs (B : Heap) (f : Addr) (name : Str) (d : Stmt) : Prop := ∃ (o : Obj) (doc pm cdv ct : Value) (an : Option Addr), B.get? f = some o ∧
  o.data = .func (fnOf name name (paramsOf d) (bodyOf d) (scopeOf d) .none .none doc pm an cdv ct) ∧ B.CodeRec cdv name
section
variable {prog : Program} {w : World} {A : Around} {E : Value → Shared → Prop} {s : Shared} {B : Heap} {f : Addr} {outer : List Env}
theorem ld_global {env : Env} {x : Str} {v : Value} {pos : Pos} {Q : Value → Shared → Prop} (g : GlobalIs B x v) (k : B.StaysIn s.heap) (hq : Q v s)
    (hk : env.scope.kind = .function := by rfl) (hx : env.kindOf x = some .globalImplicit := by rfl) (hg : env.globals = mainGlobals := by rfl) (hb : env.builtins = builtinsNs := by rfl) (hd : (x == ("__debug__" : Str)) = false := by decide) :
    wpAny (model prog w) A (eval (.Name x pos) env) Q E s := by
  obtain ⟨mg, mb, a, b, c⟩ := g
  refine Calls.Name_function_global hk hx ?_ hd
  rcases c with c | ⟨c, c'⟩
  · exact Calls.loadGlobal_global (hg ▸ a.keeps k) c hq
  · exact Calls.loadGlobal_builtin (hg ▸ a.keeps k) c (hb ▸ b.keeps k) c' hq
theorem fn_call {name : Str} {d : Stmt} {args : Args} {binds : List (Str × Value)} {R : Result → Shared → Prop} (hf : FnIs B f name d) (hroom : A.depth < recursionLimit) (bs : B.StaysIn s.heap) (hlim : B.NoLimit)
    (hbind : ∀ doc pm cdv ct an, bindArgs (fnOf name name (paramsOf d) (bodyOf d) (scopeOf d) .none .none doc pm an cdv ct) args = pure binds)
    (hcell : ∀ x ∈ (scopeOf d).names, x.2 ≠ .cell) (hloc : ∀ x ∈ binds, (scopeOf d).names.lookup x.1 = some .local)
    (hco : (scopeOf d).isCoroutine = false) (hgen : (scopeOf d).isGenerator = false) (hk : (scopeOf d).kind = .function)
    (h : ∀ h1 cd, Fr s.heap s.heap.objs.size h1 (fun x => binds.reverse.lookup x) →
      wpAny (model prog w) (A.deeper (envOf name (scopeOf d) s.heap.objs.size f cd)) (execs (bodyOf d) (envOf name (scopeOf d) s.heap.objs.size f cd))
        (fun fl s' => R (.ok (.ret (match fl with | .ret v => v | _ => .none))) s') (fun _ _ => False) { s with heap := h1, toks := s.toks + binds.length }) :
    codeAny (model prog w) A (.call (.ref f) args) R s := by
  obtain ⟨o, doc, pm, cdv, ct, an, ho, hd, hcd⟩ := hf
  refine codeAny_call_def (body := bodyOf d) hroom (bs _ _ ho) hd (hlim.keeps bs) (hcd.keeps bs) rfl (.of_eq (hbind _ _ _ _ _)) hcell hloc (fun h0 hns k0 => ?_) hco hgen hk
  exact wpAny_mono (h h0 cdv ⟨hns, k0, Nat.le_refl _⟩) (fun _ _ x => x) fun _ _ x => x.elim
theorem wp_newList {vs : List Value} {Q : Value → Shared → Prop} (hsz : vs.length ≤ sizeLine) (hq : Q (.ref s.heap.objs.size) { s with heap := s.heap.push { cls := .type "list", data := .seq vs.toArray } }) : wpAny (model prog w) A (newList vs) Q E s :=
  wpAny_newObj_type hq (by show vs.toArray.size ≤ sizeLine; rw [List.size_toArray]; exact hsz)
theorem sub_list {value slice : PySem.Expr} {l : Addr} {items : Array Value} {k : Int} {u : Tok} {v : Value} {Q : Value → Shared → Prop}
    (hl : s.heap.IsList l items) (h0 : 0 ≤ k) (hhi : k < 2 ^ 63) (hx : items[k.toNat]? = some v) (h : Q v s)
    (hs : subscripted slice false (.ref l) (.int k u) = operate [.ref l, .int k u] (getItem (.ref l) (.int k u)) := by with_unfolding_all rfl) :
    wpAny (model prog w) A (subscriptTail value slice (.ref l) (.int k u)) Q E s :=
  tail_any hl.typeIs slot_list_getitem.lookup (wpAny_getItem_list hl h0 hhi hx h) hs
theorem sub_list_int {value slice : PySem.Expr} {l : Addr} {items : Array Value} {k M : Int} {u : Tok} {Q : Value → Shared → Prop}
    (hl : s.heap.IsList l items) (h0 : 0 ≤ k) (hhi : k < 2 ^ 63) (hx : ∃ u, items[k.toNat]? = some (.int M u)) (h : ∀ u, Q (.int M u) s)
    (hs : subscripted slice false (.ref l) (.int k u) = operate [.ref l, .int k u] (getItem (.ref l) (.int k u)) := by with_unfolding_all rfl) :
    wpAny (model prog w) A (subscriptTail value slice (.ref l) (.int k u)) Q E s := by
  obtain ⟨u, hu⟩ := hx
  exact sub_list hl h0 hhi hu (h u) hs
end
abbrev latinS : Str := Str.ofString "latin-1"
def octs (x : Str) : Array UInt8 := (x.cps.toList.map (·.toUInt8)).toArray
abbrev loS (x : Str) : Nat := lo x.cps.toList
abbrev hiS (x : Str) : Nat := hi x.cps.toList
def Kp (xs : List Addr) (h h' : Heap) : Prop := ∀ b o, h.get? b = some o → b ∉ xs → h'.get? b = some o
theorem Kp.refl (xs : List Addr) (h : Heap) : Kp xs h h := fun _ _ e _ => e
theorem Kp.trans {xs : List Addr} {a b c : Heap} (x : Kp xs a b) (y : Kp xs b c) : Kp xs a c := fun p o e n => y p o (x p o e n) n
theorem Kp.mono {xs ys : List Addr} {a b : Heap} (x : Kp xs a b) (s : ∀ p ∈ xs, p ∈ ys) : Kp ys a b := fun p o e n => x p o e fun q => n (s p q)
theorem Kp.of_stays {xs : List Addr} {a b : Heap} (k : a.StaysIn b) : Kp xs a b := fun p o e _ => k p o e
theorem Kp.of_same {L : Addr} {xs : List Addr} {a b : Heap} (k : Heap.SameBut L a b) (hL : L ∈ xs) : Kp xs a b := fun p o e n => (k.2 p fun q => n (q ▸ hL)).trans e
theorem Kp.of_tch {L : Addr} {a b : Heap} (x : Tch [] [L] a b) : Kp [L] a b := fun p o e n => x.keep p o e (by simp) n
theorem Kp.fresh {xs ys : List Addr} {a b c : Heap} (x : Kp xs a b) (y : Kp ys b c) (hy : ∀ p ∈ ys, p ∈ xs ∨ a.get? p = none) : Kp xs a c := fun p o e n =>
  y p o (x p o e n) fun q => (hy p q).elim n fun z => by rw [z] at e; cases e
theorem Kp.drop {xs ys : List Addr} {a b : Heap} (x : Kp ys a b) (hy : ∀ p ∈ ys, p ∈ xs ∨ a.get? p = none) : Kp xs a b := (Kp.refl xs a).fresh x hy
theorem Kp.fr {B h h' : Heap} {L : Addr} {xs : List Addr} {m m' : Str → Option Value} (x : Kp xs h h') (hx : ∀ p ∈ xs, B.get? p = none) (F : Fr B L h m) (hn : h'.Ns L m') : Fr B L h' m' :=
  ⟨hn, fun b o e => x b o (F.keep b o e) (fun q => by rw [hx b q] at e; cases e), F.above⟩
theorem Kp.ns {h h' : Heap} {L : Addr} {xs : List Addr} {m : Str → Option Value} (x : Kp xs h h') (hx : L ∉ xs) (hn : h.Ns L m) : h'.Ns L m := by
  obtain ⟨o, es, ep, ho, hd, r⟩ := hn
  exact ⟨o, es, ep, x L o ho hx, hd, r⟩
section
variable {prog : Program} {w : World} {A : Around} {E : Value → Shared → Prop} {B h0 : Heap} {g : Array GenState} {d : Drawn} {tk0 : Nat} {os : OsState} {L : Addr} {env : Env} {m0 : Str → Option Value}
theorem for_law {I : Addr} {fp wr ws : List Addr} {n : Nat} {P : Nat → Value → Prop} {St : Nat → Heap → Prop} {x : Str} {px : Pos} {body : List Stmt} {R : Result → Shared → Prop}
    (W : Walks prog w A I fp wr n P St) (hL : L ∉ fp) (hwL : L ∉ wr) (hB : ∀ b ∈ wr, B.get? b = none) (hws : ∀ b ∈ ws, b ∉ fp) (hBL : B.get? L = none)
    (hloc : env.locals = L) (hx : env.kindOf x = some .local) (hp : (env.scope.kind == .class || (env.scope.kind == .module && env.locals != env.globals)) = false)
    (J : Nat → (Str → Option Value) → Heap → Prop) (jst : ∀ i m h h', J i m h → Kp (L :: wr) h h' → J i m h')
    (F0 : Fr B L h0 m0) (st0 : St 0 h0) (j0 : J 0 m0 h0)
    (turn : ∀ i m h tk v (E' : Value → Shared → Prop), i < n → J i m h → P i v → Fr B L h (fun y => if y = x then some v else m y) → Kp (L :: wr ++ ws) h0 h →
      wpAny (model prog w) A (execs body env) (fun f s3 => f = .next ∧ ∃ m3 h3 tk3, s3 = ⟨h3, g, d, tk3, os⟩ ∧ Fr B L h3 m3 ∧ Kp (L :: ws) h h3 ∧ J (i + 1) m3 h3) E' ⟨h, g, d, tk, os⟩)
    (fin : ∀ m h tk, J n m h → Fr B L h m → Kp (L :: wr ++ ws) h0 h → R (.ok .next) ⟨h, g, d, tk, os⟩) :
    codeAny (model prog w) A (.forLoop (.Name x px) (.ref I) body [] env) R ⟨h0, g, d, tk0, os⟩ := by
  refine codeAny_forLoop_any (fun k s' => ∃ h tk m i, s' = ⟨h, g, d, tk, os⟩ ∧ St i h ∧ Fr B L h m ∧ J i m h ∧ i ≤ n ∧ k = n - i ∧ Kp (L :: wr ++ ws) h0 h) ?_ n
    ⟨h0, tk0, m0, 0, rfl, st0, F0, j0, Nat.zero_le _, rfl, Kp.refl _ _⟩
  rintro k s' ⟨h, tk, m, i, rfl, st, F, j, hi, rfl, K⟩
  have hwr : ∀ p ∈ wr, p ∈ L :: wr := fun p q => .tail _ q
  rcases Nat.lt_or_ge i n with hlt | hge
  · refine W.item i _ _ _ hlt st fun v h1 tk1 hv st1 k1 => ?_
    have K1 : Kp wr h h1 := fun b o e nq => k1 b o nq e
    have F1 : Fr B L h1 m := K1.fr hB F (K1.ns hwL F.ns)
    have hpure : ∀ {E1 : Value → Shared → Prop} {Q1 : Unit → Shared → Prop} {s1 : Shared}, Q1 () s1 → wpAny (model prog w) A (letOwnedTupleGo (.Name x px) (.ref I) v) Q1 E1 s1 := fun hq => wpAny_of_eq (a := ()) rfl hq
    refine hpure (wpAny_assign_Name (wpAny_storeName_local (m := m) (by exact hx) (by rw [hloc]; exact F1.ns) (fun h2 hn2 hs2 => ?_) hp))
    rw [hloc] at hn2 hs2
    have K2 : Kp (L :: wr) h h2 := (K1.mono hwr).trans (Kp.of_same hs2 (.head _))
    have F2 : Fr B L h2 (fun y => if y = x then some v else m y) := F1.set hn2 hs2
    have st2 : St (i + 1) h2 := W.frame _ _ _ st1 fun b hb o e => (hs2.2 b fun q => hL (q ▸ hb)).trans e
    refine wpAny_mono (turn i m h2 (tk1 + 1) v _ hlt (jst _ _ _ _ j K2) hv F2 (K.trans (K2.mono fun p q => List.mem_append_left _ q))) (fun f s3 h3 => ?_) fun _ _ q => q
    obtain ⟨rfl, m3, h3, tk3, rfl, F3, K3, j3⟩ := h3
    refine ⟨n - (i + 1), by omega, h3, tk3, m3, i + 1, rfl, ?_, F3, j3, hlt, rfl, (K.trans (K2.mono fun p q => List.mem_append_left _ q)).trans (K3.mono fun p q => (List.mem_cons.mp q).elim (fun e => e ▸ .head _) fun q => .tail _ (List.mem_append_right _ q))⟩
    refine W.frame _ _ _ st2 fun b hb o e => K3 b o e fun q => ?_
    rcases List.mem_cons.mp q with rfl | q
    · exact hL hb
    · exact hws b q hb
  · obtain rfl : i = n := Nat.le_antisymm hi hge
    refine W.done _ _ _ st fun h1 tk1 k1 => wpAny_execs_nil ?_
    have K1 : Kp wr h h1 := fun b o e nq => k1 b o nq e
    exact fin m h1 tk1 (jst _ _ _ _ j (K1.mono hwr)) (K1.fr hB F (K1.ns hwL F.ns)) (K.trans (K1.mono fun p q => List.mem_append_left _ (.tail _ q)))
end
theorem eqAt_bytes {A : Around} {s : Shared} {b c : Array UInt8} {t u : Tok} (h : b = c) : PySem.SeqAt.EqAt A s (.bytes b t) (.bytes c u) true := fun prog w E Q hq => by
  unfold eqBool
  refine wpAny_holding ?_
  refine wpAny_ite_split (fun hab => ?_) (fun _ => ?_)
  · exact wpAny_bind (wpAny_rule (wpAny_pure hq))
  · exact wpAny_bind (richCompare_gives (typeIs_bytes s b t) (typeIs_bytes s c u) FB.slot_bytes_eq FB.entry_bytes_eq (FB.args_bytes_eq_2 _ _) (gives_bytes_eq b c t u) (fun e => nomatch e)
      (wpAny_truthy_bool (by rw [h]; simpa using hq)))
theorem tw_append {p : Nat → Bool} : ∀ a b : List Nat, ((a ++ b).takeWhile p).length = if (a.takeWhile p).length < a.length then (a.takeWhile p).length else a.length + (b.takeWhile p).length
  | [], b => by simp
  | x :: a, b => by
    rw [List.cons_append, List.takeWhile_cons, List.takeWhile_cons]
    by_cases h : p x = true
    · rw [if_pos h, if_pos h]
      simp only [List.length_cons]
      rw [tw_append a b]
      by_cases h2 : (a.takeWhile p).length < a.length
      · rw [if_pos h2, if_pos (by omega)]
      · rw [if_neg h2, if_neg (by omega)]; omega
    · rw [if_neg h, if_neg h]; simp
theorem lo_append (a b : List Nat) : lo (a ++ b) = if lo a < a.length then lo a else a.length + lo b := tw_append a b
theorem hi_append (a b : List Nat) : hi (a ++ b) = if lo a < a.length then (if hi a = a.length then a.length + (if lo b = 0 then hi b else 0) else hi a) else a.length + hi b := by
  unfold hi
  rw [lo_append]
  by_cases h : lo a < a.length
  · rw [if_pos h, if_pos h, List.drop_append_of_le_length (by omega), tw_append]
    have hl : (a.drop (lo a)).length = a.length - lo a := List.length_drop
    by_cases h2 : ((a.drop (lo a)).takeWhile (fun c => !decide (c < 256))).length < (a.drop (lo a)).length
    · rw [if_pos h2, if_neg (by omega)]
    · have h3 : ((a.drop (lo a)).takeWhile (fun c => !decide (c < 256))).length ≤ (a.drop (lo a)).length := takeWhile_len_le _
      rw [if_neg h2, if_pos (by omega), hl]
      have h5 : (b.takeWhile (fun c => !decide (c < 256))).length = if lo b = 0 then lo b + ((b.drop (lo b)).takeWhile (fun c => !decide (c < 256))).length else 0 := by
        by_cases h4 : lo b = 0
        · rw [if_pos h4, h4]; simp
        · rw [if_neg h4]
          cases b with
          | nil => rfl
          | cons c r =>
            have hc : c < 256 := by
              unfold lo at h4
              rw [List.takeWhile_cons] at h4
              by_cases hc : c < 256
              · exact hc
              · simp [hc] at h4
            simp [List.takeWhile_cons, hc]
      rw [h5]
      omega
  · rw [if_neg h, if_neg h]
    have : (a ++ b).drop (a.length + lo b) = b.drop (lo b) := by rw [List.drop_append]; simp
    rw [this]; omega
def runOf (l : List Nat) : List Nat := (l.drop (lo l)).take (hi l - lo l)
theorem runOf_eq (l : List Nat) : runOf l = (l.drop (lo l)).takeWhile (fun c => !decide (c < 256)) := by
  unfold runOf hi
  rw [Nat.add_sub_cancel_left]
  generalize l.drop (lo l) = r
  induction r with
  | nil => rfl
  | cons c r ih =>
    rw [List.takeWhile_cons]
    split
    · rw [List.length_cons, List.take_succ_cons, ih]
    · rfl
theorem takeWhile_all {p : Nat → Bool} : ∀ l : List Nat, ∀ c ∈ l.takeWhile p, p c = true
  | [], c, h => by simp at h
  | x :: l, c, h => by
    rw [List.takeWhile_cons] at h
    split at h
    · rcases List.mem_cons.mp h with rfl | h
      · assumption
      · exact takeWhile_all l c h
    · simp at h
theorem tw_self {p : Nat → Bool} : ∀ l : List Nat, (∀ c ∈ l, p c = true) → l.takeWhile p = l
  | [], _ => rfl
  | x :: l, h => by rw [List.takeWhile_cons, if_pos (h x (.head _)), tw_self l fun c hc => h c (.tail _ hc)]
theorem runOf_big (l : List Nat) : ∀ c ∈ runOf l, ¬ c < 256 := fun c h => by
  rw [runOf_eq] at h
  have := takeWhile_all _ c h
  simpa using this
theorem lo_big {l : List Nat} (h : ∀ c ∈ l, ¬ c < 256) : lo l = 0 := by
  cases l with
  | nil => rfl
  | cons c r =>
    unfold lo
    rw [List.takeWhile_cons, if_neg (by simpa using h c (.head _))]; rfl
theorem hi_big {l : List Nat} (h : ∀ c ∈ l, ¬ c < 256) : hi l = l.length := by
  unfold hi
  rw [lo_big h, List.drop_zero, tw_self l fun c hc => by simpa using h c hc]; omega
theorem runOf_run {l : List Nat} (h : ∀ c ∈ l, ¬ c < 256) : runOf l = l := by
  unfold runOf; rw [lo_big h, hi_big h]; simp
theorem runOf_pos {l : List Nat} (h : lo l < l.length) : 0 < (runOf l).length := by
  rw [runOf_eq]
  have h1 : l.drop (lo l) = l[lo l] :: l.drop (lo l + 1) := List.drop_eq_getElem_cons h
  have h2 := lo_stop l h
  rw [h1, List.takeWhile_cons, if_pos (by simpa using h2)]
  simp
theorem mid_run (x : Str) : (mid x (loS x) (hiS x)).cps.toList = runOf x.cps.toList := by
  show ((x.cps.toList.drop _).take _).toArray.toList = _
  rw [List.toList_toArray]; rfl
theorem encWords_run (n x : Str) : encWords n (mid x (loS x) (hiS x)) = encWords n x := by
  unfold encWords
  have e := mid_run x
  have hb := runOf_big x.cps.toList
  have : mid (mid x (loS x) (hiS x)) (lo (mid x (loS x) (hiS x)).cps.toList) (hi (mid x (loS x) (hiS x)).cps.toList) = mid x (loS x) (hiS x) := by
    exact str_ext ((mid_run _).trans (runOf_run (by rw [e]; exact hb)))
  rw [this]
theorem hi_bounds {l : List Nat} (h : lo l < l.length) : lo l < hi l ∧ hi l ≤ l.length := by
  have h1 := runOf_pos h
  rw [runOf_eq] at h1
  exact ⟨by unfold hi; omega, hi_le l⟩
theorem un {a : Option Value} {w v : Value} {x y : Str} (h : a = some w) (hne : y ≠ x := by decide) : (if y = x then some v else a) = some w := (if_neg hne).trans h
theorem ue {a : Option Value} {v : Value} {x : Str} : (if x = x then some v else a) = some v := if_pos rfl
def forBodyOf : Stmt → List Stmt
  | .For _ _ b _ _ => b
  | _ => []
def ifBodyOf : Stmt → List Stmt
  | .If _ b _ _ => b
  | _ => []
def ifElseOf : Stmt → List Stmt
  | .If _ _ b _ => b
  | _ => []
def nth (l : List Stmt) (i : Nat) : Stmt := (l[i]?).getD (.Pass ⟨0, 0, 0, 0⟩)
theorem not_frame {h : Heap} {L a : Addr} {o : Obj} {m : Str → Option Value} (hn : h.Ns L m) (ho : h.get? a = some o) (hd : ∀ es n, o.data ≠ .dict es n) : a ≠ L := fun q => by
  obtain ⟨o', es, ep, ho', hd2, _⟩ := hn
  rw [q, ho'] at ho; cases ho; exact hd _ _ hd2
theorem Kp.get {h h' : Heap} {L a : Addr} {o : Obj} {m : Str → Option Value} (K : Kp [L] h h') (hn : h.Ns L m) (ho : h.get? a = some o) (hd : ∀ es n, o.data ≠ .dict es n) : h'.get? a = some o :=
  K a o ho (by simpa using not_frame hn ho hd)
def pre (x : Str) (k : Nat) : Str := ⟨(x.cps.toList.take k).toArray⟩
def suf (x : Str) (k : Nat) : Str := ⟨(x.cps.toList.drop k).toArray⟩
theorem pre_list (x : Str) (k : Nat) : (pre x k).cps.toList = x.cps.toList.take k := by simp [pre]
theorem suf_list (x : Str) (k : Nat) : (suf x k).cps.toList = x.cps.toList.drop k := by simp [suf]
theorem slice_pre (x : Str) {k : Nat} (h : k ≤ x.length) : Txt.slice x none (some (k : Int)) = pre x k := by
  have := beq_iff_eq.mp (slice_closes_toL (x := x) (j := (k : Int)) (by omega) (by omega))
  rw [this]; simp [pre]
theorem slice_suf (x : Str) {k : Nat} (h : k ≤ x.length) : Txt.slice x (some (k : Int)) none = suf x k := by
  rw [slice_from_eq (b := (x.length : Int)) (by omega) (by omega) rfl]
  unfold suf
  congr 2
  refine List.take_of_length_le ?_
  have : x.cps.toList.length = x.length := Array.length_toList
  rw [List.length_drop]; omega
theorem Fine.pre {x : Str} (h : Fine x) (k : Nat) : Fine (pre x k) := by
  refine ⟨?_, fun c hc => h.2 c ?_⟩
  · have h1 := h.1
    have : x.cps.toList.length = x.length := Array.length_toList
    show ((x.cps.toList.take k).toArray).size ≤ _
    rw [List.size_toArray, List.length_take]; omega
  · rw [pre_list] at hc; exact List.mem_of_mem_take hc
theorem Fine.suf {x : Str} (h : Fine x) (k : Nat) : Fine (suf x k) := by
  refine ⟨?_, fun c hc => h.2 c ?_⟩
  · have h1 := h.1
    have : x.cps.toList.length = x.length := Array.length_toList
    show ((x.cps.toList.drop k).toArray).size ≤ _
    rw [List.size_toArray, List.length_drop]; omega
  · rw [suf_list] at hc; exact List.mem_of_mem_drop hc
section
variable {prog : Program} {w : World} {A : Around} {E : Value → Shared → Prop} {B h : Heap} {g : Array GenState} {d : Drawn} {tk : Nat} {os : OsState} {L f : Addr} {cd : Value} {m : Str → Option Value} {x : Str} {tx : Tok}
theorem istup {h : Heap} {p : Addr} {vs : Array Value} (hp : h.get? p = some { cls := .type "tuple", data := .seq vs }) : IsTup h p vs := ⟨_, hp, rfl, _, rfl⟩
theorem sub_tuple {value slice : PySem.Expr} {l : Addr} {items : Array Value} {k : Int} {j : Nat} {u : Tok} {v : Value} {Q : Value → Shared → Prop} {s : Shared}
    (hl : IsTup s.heap l items) (h0 : -(2 ^ 63) ≤ k) (hhi : k < 2 ^ 63) (hj : seqIndex? k items.size = some j) (hx : items[j]? = some v) (h : Q v s)
    (hs : subscripted slice false (.ref l) (.int k u) = operate [.ref l, .int k u] (getItem (.ref l) (.int k u)) := by with_unfolding_all rfl) :
    wpAny (model prog w) A (subscriptTail value slice (.ref l) (.int k u)) Q E s :=
  tail_any hl.typeIs PyProof.Rows.slot_tuple_getitem.lookup (getItem_tuple hl h0 hhi hj hx h) hs
theorem octs_join (x : Str) (k : Nat) : octs x = octs (pre x k) ++ octs (suf x k) := by
  unfold octs
  rw [pre_list, suf_list, List.map_take, List.map_drop]
  apply Array.ext'
  simp
theorem unpk {p : Addr} {items : Array Value} {Q : List Value → Shared → Prop} {n : Nat} (hh : A.handled = none) (hp : h.get? p = some { cls := .type "tuple", data := .seq items }) (hn : n = items.size)
    (hq : ∀ h', h.StaysIn h' → Q items.toList ⟨h', g, d, tk, os⟩) : wpAny (model prog w) A (unpackItems (.ref p) n none) Q E ⟨h, g, d, tk, os⟩ := by
  subst hn
  exact unpackItems_tuple hh (istup hp) fun h' he => hq h' fun b o e => he b o (Nat.ne_of_lt (Heap.lt_size e)) e
theorem storeN {name y : Str} {scope : Scope} {v : Value} {Q : Unit → Shared → Prop} (F : Fr B L h m)
    (hq : ∀ h2, Fr B L h2 (fun z => if z = y then some v else m z) → Kp [L] h h2 → Q () ⟨h2, g, d, tk + 1, os⟩)
    (hk : scope.kind = .function := by rfl) (hl : (envOf name scope L f cd).kindOf y = some .local := by rfl) :
    wpAny (model prog w) A (storeName (envOf name scope L f cd) y v) Q E ⟨h, g, d, tk, os⟩ :=
  wpAny_storeName_local (s := ⟨h, g, d, tk, os⟩) (m := m) hl F.ns (fun h2 hn2 hs2 => hq h2 (F.set hn2 hs2) (Kp.of_same hs2 (List.mem_singleton.mpr rfl)))
    (by show (scope.kind == .class || (scope.kind == .module && L != mainGlobals)) = false; rw [hk]; rfl)
end
end Mine
end
section
open PySem PySem.W PyProof.Rows
open PySem.Builtin PySem.Builtin.Str
namespace Mine

section
variable {prog : Program} {w : World} {A : Around} {E : Value → Shared → Prop} {B h : Heap} {g : Array GenState} {d : Drawn} {tk : Nat} {os : OsState} {L f : Addr} {cd : Value} {m : Str → Option Value} {name : Str} {scope : Scope}

theorem caught {Q : Flow → Shared → Prop} {P : Flow → (Str → Option Value) → Prop} {e T : Addr} {X Y : String} {dd : Option Addr} {vs : Array Value} {sl : Array (Option Value)} {n : Str} {b₀ : Stmt} {suite : List Stmt} {p1 pos : Pos} {rest : List ExceptHandler}
    (hfr : A.frames = some [envOf name scope L f cd]) (hBL : B.get? L = none) (F : Fr B L h m) (gy : GlobalIs B (Str.ofString Y) (.type Y)) (hBe : B.get? e = none) (hBT : B.get? T = none)
    (he : h.get? e = some ⟨.type X, dd, .fields vs, sl⟩) (h1 : vs[1]? = some (.ref T)) (hT : TB h T .none) (hTe : T ≠ e)
    (hexc : isSubtype (.type Y) (.type "BaseException") = pure true) (hnt : isSubtype (.type ((Manifest.find? Y).elim "type" fun x => x.metatype)) (.type "tuple") = pure false) (hsub : isSubtype (.type X) (.type Y) = pure true)
    (hbody : ∀ h' tk' T' (E' : Value → Shared → Prop), Fr B L h' (fun y => if y = n then some (.ref e) else m y) → Kp [L, e, T] h h' → h'.get? e = some ⟨.type X, dd, .fields (vs.setIfInBounds 1 (.ref T')), sl⟩ →
      wpAny (model prog w) (A.mark (some (.ref e))) (execs (b₀ :: suite) (envOf name scope L f cd)) (fun fl s' => ∃ h2 m2 tk2, s' = ⟨h2, g, d, tk2, os⟩ ∧ Fr B L h2 m2 ∧ Kp [L] h' h2 ∧ P fl m2) E' ⟨h', g, d, tk', os⟩)
    (hq : ∀ fl h3 m2 v tk3, P fl m2 → Fr B L h3 (fun y => if y = n then v else m2 y) → Kp [L, e, T] h h3 → Q fl ⟨h3, g, d, tk3, os⟩)
    (hk : scope.kind = .function := by rfl) (hn : (envOf name scope L f cd).kindOf n = some .local := by rfl) (hy : (envOf name scope L f cd).kindOf (Str.ofString Y) = some .globalImplicit := by rfl) (hdb : (Str.ofString Y == ("__debug__" : Str)) = false := by decide) :
    wpAny (model prog w) A (noteFrame (.ref e) (envOf name scope L f cd)) (fun _ s₂ => wpAny (model prog w) A (setFlight (.ref e) none) (fun _ s₃ =>
      wpAny (model prog w) A (handleBy (.ref e) (envOf name scope L f cd) (.ExceptHandler (some (.Name (Str.ofString Y) p1)) (some n) (b₀ :: suite) pos :: rest)) Q E s₃) E s₂) E ⟨h, g, d, tk, os⟩ := by
  have hkm : (envOf name scope L f cd).scope.kind ≠ .module := by show scope.kind ≠ .module; rw [hk]; decide
  have hff : h.FunFrames noHeap [envOf name scope L f cd] := Heap.FunFrames.cons hkm rfl F.ns (noHeap_get L) trivial
  have hfm : ([envOf name scope L f cd] : List Env).filterMap (·.frame) = [L] := rfl
  have hp : ((envOf name scope L f cd).scope.kind == .class || ((envOf name scope L f cd).scope.kind == .module && (envOf name scope L f cd).locals != (envOf name scope L f cd).globals)) = false := by
    show (scope.kind == .class || (scope.kind == .module && L != mainGlobals)) = false; rw [hk]; rfl
  have eL : e ≠ L := not_frame F.ns he (fun _ _ q => by cases q)
  have step : ∀ {h1 h2 : Heap} {xs : List Addr} {m1 : Str → Option Value}, Tch xs [L] h1 h2 → L ∉ xs → (∀ a ∈ xs, B.get? a = none) → Fr B L h1 m1 → Fr B L h2 m1 := fun x hL hx F1 =>
    ⟨x.ns hL F1.ns, fun b o eb => x.keep b o (F1.keep b o eb) (fun q => by rw [hx b q] at eb; cases eb) (fun q => by rw [List.mem_singleton.mp q, hBL] at eb; cases eb), F1.above⟩
  obtain ⟨oT, ts, hT1, hT2, hT3⟩ := id hT
  have TL : T ≠ L := not_frame F.ns hT1 (fun _ _ q => by rw [hT2] at q; cases q)
  refine note_next hfr hff rfl he h1 hT hTe fun h3 T3 K3 hl3 hT3' hTe3 ex3 tb3 => ?_
  rw [hfm] at K3
  have F3 := step K3 (by simp [eL.symm, TL.symm]) (by intro a ha; simp at ha; rcases ha with rfl | rfl <;> assumption) F
  have hv1 : 1 < vs.size := (Array.getElem?_eq_some_iff.mp h1).1
  have hg1 : (vs.setIfInBounds 1 (.ref T3))[1]? = some (.ref T3) := by simp [hv1]
  have hBT3 : B.get? T3 = none := by
    cases q : B.get? T3 with
    | none => rfl
    | some o => have := F.keep _ _ q; rw [hT3'] at this; cases this
  have T3L : ∀ {h : Heap} {m : Str → Option Value} {fl : Value}, h.Ns L m → TB h T3 fl → T3 ≠ L := fun hn ⟨oT, ts, a1, a2, _⟩ => not_frame hn a1 (fun _ _ q => by rw [a2] at q; cases q)
  refine set_flight ex3 (T := T3) hg1 tb3 fun h4 u4 tb4 => ?_
  have F4 := step (Tch.of_up1 (fs := [L]) u4 (List.mem_singleton.mpr rfl)) (by simpa using (T3L F3.ns tb3).symm) (by simpa using hBT3) F3
  have ex4 := (u4.same e (Ne.symm hTe3)).trans ex3
  refine wpAny_handleBy_builtin_as (X := X) (T := Y) (b := true) hexc hnt hsub (ld_global gy F4.keep ⟨rfl, ⟨_, ex4, rfl⟩, ?_⟩ hk hy rfl rfl hdb)
  rw [if_pos rfl]
  refine set_flight ex4 (T := T3) hg1 tb4 fun h5 u5 tb5 => ?_
  have F5 := step (Tch.of_up1 (fs := [L]) u5 (List.mem_singleton.mpr rfl)) (by simpa using (T3L F4.ns tb4).symm) (by simpa using hBT3) F4
  have ex5 := (u5.same e (Ne.symm hTe3)).trans ex4
  refine storeN (m := m) F5 (fun h6 F6 K6 => ?_) hk hn
  have ex6 := K6.get F5.ns ex5 (fun _ _ q => by cases q)
  have K36 : Kp [L, e, T] h h6 := by
    have k3 : Kp [L, e, T] h h3 := fun p o eo np => K3.keep p o eo (fun q => np (by simp at q ⊢; rcases q with rfl | rfl <;> simp)) (fun q => np (by rw [List.mem_singleton.mp q]; simp))
    have k4 : ∀ p o, h3.get? p = some o → p ≠ T3 → h5.get? p = some o := fun p o eo np => (u5.same p np).trans ((u4.same p np).trans eo)
    exact fun p o eo np => K6 p o (k4 p o (k3 p o eo np) (fun q => by rw [q, hT3'] at eo; cases eo)) (fun q => np (by rw [List.mem_singleton.mp q]; simp))
  refine wpAny_mono (hbody h6 _ T3 _ F6 K36 ex6) (fun fl s' hs => ?_) fun _ _ q => q
  obtain ⟨h7, m7, tk7, rfl, F7, K7, hP⟩ := hs
  refine wpAny_nameGoes_keeps (env := envOf name scope L f cd) hn F7.ns hp fun h8 v hn8 hs8 => ?_
  exact hq fl h8 m7 v _ hP (F7.set hn8 hs8) ((K36.trans (K7.mono (by simp))).trans (Kp.of_same hs8 (.head _)))
end
end Mine
end
section
open PySem PySem.W PyProof.Rows
open PySem.Builtin PySem.Builtin.Str
namespace Mine

def stmt7 (i : Nat) : Stmt := (PySem.Challenge.pw_km0023_07.main.body[i]?).getD (.Pass ⟨0, 0, 0, 0⟩)
def signTable : Str := Str.ofString "aZ\néÿĀα😀"
def signOf (a : Int) : Str :=
  if a.fmod 3 = 0 then Txt.item signTable ((a.fdiv 3).fmod 8)
  else
    let code := (a.fdiv 3).fmod (if a.fmod 3 = 1 then 512 else 1112064)
    ⟨#[(if code < 55296 then code else code + 2048).toNat]⟩

section
variable {prog : Program} {w : World} {A : Around} {E : Value → Shared → Prop} {s : Shared} {B : Heap} {f : Addr} {outer : List Env}

theorem sign_call {a : Int} {ta : Tok} {R : Result → Shared → Prop} (hf : FnIs B f (Str.ofString "_law_sign") (stmt7 3)) (hroom : A.depth < recursionLimit) (bs : B.StaysIn s.heap) (hlim : B.NoLimit)
    (gchr : GlobalIs B "chr" (.builtin "chr"))
    (h : ∀ h' tk k, s.heap.StaysIn h' → R (.ok (.ret (.str (signOf a) k))) { s with heap := h', toks := tk }) :
    codeAny (model prog w) A (.call (.ref f) ⟨[.int a ta], []⟩) R s := by
  refine fn_call (binds := [(Str.ofString "x", .int a ta)]) hf hroom bs hlim (fun _ _ _ _ _ => rfl) (by decide) (by exact locs (scope := scopeOf (stmt7 3)) (binds := [(Str.ofString "x", .int a ta)]) rfl) rfl rfl rfl (fun h1 cd F => ?_)
  refine wpAny_execs_cons (wpAny_If (wpAny_isTrue_Compare1 (wpAny_BinOp (ld F rfl (wpAny_Constant_int (mod_int' (by decide) (wpAny_Constant_int (eq_int (wpAny_truthy_bool ?_)))))))))
  have hm3 : 0 ≤ a.fmod 3 ∧ a.fmod 3 < 3 := ⟨Int.fmod_nonneg_of_pos _ (by decide), Int.fmod_lt_of_pos _ (by decide)⟩
  by_cases hc : a.fmod 3 = 0
  · rw [if_pos (by simpa using hc)]
    have hm8 : 0 ≤ (a.fdiv 3).fmod 8 ∧ (a.fdiv 3).fmod 8 < 8 := ⟨Int.fmod_nonneg_of_pos _ (by decide), Int.fmod_lt_of_pos _ (by decide)⟩
    have hlen : signTable.length = 8 := by decide +kernel
    refine wpAny_execs_cons (wpAny_Return_some (Subscript_ (Calls.Constant_str (wpAny_BinOp (wpAny_BinOp (ld F rfl (wpAny_Constant_int (floordiv_int (by decide) (wpAny_Constant_int (mod_int' (by decide) ?_))))))))))
    refine item_str (x := signTable) (fitsSsize_of (N := 9223372036854775808) (by omega) (by omega) (Int.le_refl _)) (by omega) (by omega) (fun _ => ?_)
    have e : Txt.item signTable ((a.fdiv 3).fmod 8) = signOf a := (if_pos hc).symm
    dsimp only
    rw [e]
    exact h _ _ _ F.keep
  · rw [if_neg (by simpa using hc)]
    refine wpAny_execs_nil ?_
    refine wpAny_execs_cons (wpAny_Assign_Name (wpAny_BinOp (wpAny_BinOp (ld F rfl (wpAny_Constant_int (floordiv_int (by decide) ?_))))))
    refine Subscript_ (List_ (spliced_more (wpAny_Constant_int (spliced_more (wpAny_Constant_int (spliced_none (wp_newList (by show 2 ≤ sizeLine; decide) ?_)))))))
    refine wpAny_BinOp (wpAny_BinOp (ld (F.push _) rfl (wpAny_Constant_int (mod_int' (by decide) (wpAny_Constant_int (sub_int ?_))))))
    dsimp only
    have hit : ∀ t1 t2 : Tok, ∃ u, ([Value.int 512 t1, Value.int 1112064 t2].toArray)[(a.fmod 3 - 1).toNat]? = some (.int (if a.fmod 3 = 1 then 512 else 1112064) u) := fun t1 t2 => by
      by_cases h1 : a.fmod 3 = 1
      · rw [h1]; exact ⟨t1, rfl⟩
      · have h2 : a.fmod 3 = 2 := by omega
        rw [h2]; exact ⟨t2, rfl⟩
    refine sub_list_int ⟨_, Heap.get?_push_size _ rfl, rfl, _, rfl⟩ (by omega) (by omega) (hit _ _) (fun u => ?_)
    have hM : 0 < (if a.fmod 3 = 1 then (512 : Int) else 1112064) := by split <;> decide
    have hM2 : (if a.fmod 3 = 1 then (512 : Int) else 1112064) ≤ 1112064 := by split <;> decide
    have hc0 := Int.fmod_nonneg_of_pos (a.fdiv 3) hM
    have hc1 := Int.fmod_lt_of_pos (a.fdiv 3) hM
    have hdef : signOf a = ⟨#[(if (a.fdiv 3).fmod (if a.fmod 3 = 1 then 512 else 1112064) < 55296 then (a.fdiv 3).fmod (if a.fmod 3 = 1 then 512 else 1112064) else (a.fdiv 3).fmod (if a.fmod 3 = 1 then 512 else 1112064) + 2048).toNat]⟩ := if_neg hc
    refine mod_int' (by omega) ?_
    revert hdef hc0 hc1
    generalize (a.fdiv 3).fmod (if a.fmod 3 = 1 then (512 : Int) else 1112064) = code
    intro hc0 hc1 hdef
    dsimp only
    refine st (F.push _) (fun h2 F2 => ?_)
    refine wpAny_execs_cons (wpAny_Return_some (Call_ (ld_global gchr (fun b o e => F2.keep b o (bs b o e)) (PyProof.Rows.callWith_builtin1 (spliced_more (IfExp_ (wpAny_isTrue_Compare1 (ld F2 rfl (wpAny_Constant_int (lt_int (wpAny_truthy_bool ?_)))))))))))
    by_cases hs : code < 55296
    · rw [if_pos (by simpa using hs)]
      rw [if_pos hs] at hdef
      refine ld F2 rfl (spliced_none (chr_of_range (by omega) (by omega) ?_))
      dsimp only
      rw [← hdef]
      exact h _ _ _ F2.keep
    · rw [if_neg (by simpa using hs)]
      rw [if_neg hs] at hdef
      refine wpAny_BinOp (ld F2 rfl (wpAny_Constant_int (add_int (spliced_none (chr_of_range (by omega) (by omega) ?_)))))
      dsimp only
      rw [← hdef]
      exact h _ _ _ F2.keep
end
def codeOf (a : Int) : Nat := (signOf a).cps.getD 0 0
theorem signOf_eq (a : Int) : signOf a = ⟨#[codeOf a]⟩ := by
  unfold codeOf signOf
  split
  · simp [Txt.item]
  · simp
theorem item_lt : ∀ k : Fin 8, ((Txt.item signTable (k.val : Int)).cps.getD 0 0) < 1114112 := by decide +kernel
theorem codeOf_lt (a : Int) : codeOf a < 1114112 := by
  unfold codeOf signOf
  split
  · have h0 : 0 ≤ (a.fdiv 3).fmod 8 := Int.fmod_nonneg_of_pos _ (by decide)
    have h1 : (a.fdiv 3).fmod 8 < 8 := Int.fmod_lt_of_pos _ (by decide)
    have := item_lt ⟨((a.fdiv 3).fmod 8).toNat, by omega⟩
    have e : ((((a.fdiv 3).fmod 8).toNat : Nat) : Int) = (a.fdiv 3).fmod 8 := by omega
    rw [e] at this
    exact this
  · have hM : 0 < (if a.fmod 3 = 1 then (512 : Int) else 1112064) := by split <;> decide
    have hM2 : (if a.fmod 3 = 1 then (512 : Int) else 1112064) ≤ 1112064 := by split <;> decide
    have hc0 := Int.fmod_nonneg_of_pos (a.fdiv 3) hM
    have hc1 := Int.fmod_lt_of_pos (a.fdiv 3) hM
    dsimp only
    generalize (a.fdiv 3).fmod (if a.fmod 3 = 1 then (512 : Int) else 1112064) = code at *
    show (if code < 55296 then code else code + 2048).toNat < 1114112
    split <;> omega

def textOf (ns : List Int) : Str := ⟨(ns.map codeOf).toArray⟩
theorem textOf_fine {ns : List Int} (h : ns.length ≤ 63) : Fine (textOf ns) := by
  refine ⟨?_, fun c hc => ?_⟩
  · show ((ns.map codeOf).toArray).size ≤ 100000
    simp; omega
  · have : c ∈ ns.map codeOf := by simpa [textOf] using hc
    obtain ⟨a, _, rfl⟩ := List.mem_map.mp this
    have := codeOf_lt a
    omega

theorem strs_of_paired {F : Value → Value → Prop} {g : Int → Str} (hF : ∀ v y, F v y → ∃ a t u, v = .int a t ∧ y = .str (g a) u) :
    ∀ {vs ys : List Value} {ns : List Int}, Paired F vs ys → IntsAre vs ns → StrsAre ys (ns.map g)
  | _, _, _, .nil, h => by cases h; exact .nil
  | _, _, _, .cons hab hr, h => by
    cases h with
    | cons i t hi =>
      obtain ⟨a, t', u, e1, rfl⟩ := hF _ _ hab
      cases e1
      exact .cons _ _ (strs_of_paired hF hr hi)

theorem len_signs : ∀ ns : List Int, ((ns.map signOf).map (·.length)).sum ≤ ns.length
  | [] => Nat.le_refl _
  | a :: r => by
    have ih := len_signs r
    have : (signOf a).length = 1 := by rw [signOf_eq]; rfl
    simp only [List.map_cons, List.sum_cons, List.length_cons]
    omega

theorem int_of_mem : ∀ {vs : List Value} {ns : List Int} {v : Value}, IntsAre vs ns → v ∈ vs → ∃ a t, v = .int a t
  | _, _, _, .nil, h => nomatch h
  | _, _, _, .cons n t hr, h => by
    rcases List.mem_cons.mp h with rfl | h
    · exact ⟨_, _, rfl⟩
    · exact int_of_mem hr h

end Mine
end
section
open PySem PySem.W PyProof.Rows
open PySem.Builtin PySem.Builtin.Str
namespace Mine

def numS (c : Nat) : Str := Str.ofString (toString (c : Int))
def mendS (j c : Nat) : Str := if j % 3 = 0 then (Str.ofString "&#" ++ numS c) ++ Str.ofString ";" else if j % 3 = 1 then Str.ofString "?" else Str.ofString ""
theorem app_list (x y : Str) : (x ++ y).cps.toList = x.cps.toList ++ y.cps.toList := by
  show (x.cps ++ y.cps).toList = _
  simp
theorem numS_list (c : Nat) : (numS c).cps.toList = (Nat.toDigits 10 c).map Char.toNat := KIN.signs_num c
theorem numS_small (c : Nat) : ∀ x ∈ (numS c).cps.toList, x < 128 := fun x hx => by
  rw [numS_list] at hx
  obtain ⟨d, hd, rfl⟩ := List.mem_map.mp hx
  have h := Nat.isDigit_of_mem_toDigits (by decide) (by decide) hd
  simp only [Char.isDigit, Bool.and_eq_true, decide_eq_true_eq] at h
  have h2 : d.val.toNat ≤ 57 := h.2
  show d.val.toNat < 128
  omega
theorem numS_len {c : Nat} (h : c < 1114112) : (numS c).length ≤ 7 := by
  have e : (numS c).length = (numS c).cps.toList.length := Array.length_toList.symm
  rw [e, numS_list, List.length_map]
  exact (Nat.length_toDigits_le_iff (by decide) (by decide)).mpr (Nat.lt_of_lt_of_le h (by decide))
theorem mendS_small (j c : Nat) : ∀ x ∈ (mendS j c).cps.toList, x < 128 := by
  have e1 : ∀ x ∈ (Str.ofString "&#").cps.toList, x < 128 := by decide +kernel
  have e2 : ∀ x ∈ (Str.ofString ";").cps.toList, x < 128 := by decide +kernel
  have e3 : ∀ x ∈ (Str.ofString "?").cps.toList, x < 128 := by decide +kernel
  have e4 : ∀ x ∈ (Str.ofString "").cps.toList, x < 128 := by decide +kernel
  unfold mendS
  split
  · intro x hx
    rw [app_list, app_list] at hx
    rcases List.mem_append.mp hx with q | q
    · rcases List.mem_append.mp q with q | q
      · exact e1 x q
      · exact numS_small c x q
    · exact e2 x q
  · split
    · exact e3
    · exact e4
theorem mendS_len {c : Nat} (j : Nat) (h : c < 1114112) : (mendS j c).length ≤ 10 := by
  have z1 : (Str.ofString "&#").length = 2 := by decide +kernel
  have z2 : (Str.ofString ";").length = 1 := by decide +kernel
  have z3 : (Str.ofString "?").length = 1 := by decide +kernel
  have z4 : (Str.ofString "").length = 0 := by decide +kernel
  have := numS_len h
  unfold mendS
  split
  · simp only [Str.length_append]; omega
  · split <;> omega
abbrev one (c : Nat) : Str := ⟨#[c]⟩
theorem small_log {a : Nat} (h : a < 1114112) : ((a : Nat) : Int).natAbs.log2 < 1920 := by
  rw [Int.natAbs_natCast]
  by_cases h0 : a = 0
  · subst h0; decide
  · exact Nat.lt_of_lt_of_le ((Nat.log2_lt h0).mpr (Nat.lt_of_lt_of_le h (by decide : 1114112 ≤ 2 ^ 21))) (by decide)
theorem sub_list_str {prog : Program} {w : World} {A : Around} {E : Value → Shared → Prop} {s : Shared} {value slice : PySem.Expr} {l : Addr} {items : Array Value} {k : Int} {M : Str} {u : Tok} {Q : Value → Shared → Prop}
    (hl : s.heap.IsList l items) (h0 : 0 ≤ k) (hhi : k < 2 ^ 63) (hx : ∃ u, items[k.toNat]? = some (.str M u)) (h : ∀ u, Q (.str M u) s)
    (hs : subscripted slice false (.ref l) (.int k u) = operate [.ref l, .int k u] (getItem (.ref l) (.int k u)) := by with_unfolding_all rfl) :
    wpAny (model prog w) A (subscriptTail value slice (.ref l) (.int k u)) Q E s := by
  obtain ⟨u, hu⟩ := hx
  exact sub_list hl h0 hhi hu (h u) hs
theorem pick_mend (j c : Nat) (t1 t2 t3 : Tok) : ∃ u, ([Value.str ((Str.ofString "&#" ++ numS c) ++ Str.ofString ";") t1, Value.str (Str.ofString "?") t2, Value.str (Str.ofString "") t3].toArray)[(((j % 3 : Nat)) : Int).toNat]? = some (.str (mendS j c) u) := by
  unfold mendS
  have h3 : j % 3 < 3 := Nat.mod_lt _ (by decide)
  generalize j % 3 = i at h3
  match i, h3 with
  | 0, _ => exact ⟨t1, rfl⟩
  | 1, _ => exact ⟨t2, rfl⟩
  | 2, _ => exact ⟨t3, rfl⟩
theorem mod3 (j : Nat) : ((j : Int).fmod 3) = ((j % 3 : Nat) : Int) := by rw [Int.fmod_eq_emod_of_nonneg _ (by decide)]; omega

section
variable {prog : Program} {w : World} {A : Around} {E : Value → Shared → Prop} {s : Shared} {B : Heap} {f : Addr}

theorem mend_call {c j : Nat} {tc tj : Tok} {R : Result → Shared → Prop} (hf : FnIs B f (Str.ofString "_law_mend") (stmt7 4)) (hroom : A.depth < recursionLimit) (bs : B.StaysIn s.heap) (hlim : B.NoLimit)
    (gord : GlobalIs B "ord" (.builtin "ord")) (gstr : GlobalIs B "str" (.type "str")) (hc : c < 1114112)
    (h : ∀ h' tk k, s.heap.StaysIn h' → R (.ok (.ret (.str (mendS j c) k))) { s with heap := h', toks := tk }) :
    codeAny (model prog w) A (.call (.ref f) ⟨[.str (one c) tc, .int j tj], []⟩) R s := by
  have hsl : sizeLine = 16777216 := rfl
  have z1 : (Str.ofString "&#").length = 2 := by decide +kernel
  have z2 : (Str.ofString ";").length = 1 := by decide +kernel
  have z3 := numS_len hc
  refine fn_call (binds := [(Str.ofString "sign", .str (one c) tc), (Str.ofString "turn", .int j tj)]) hf hroom bs hlim (fun _ _ _ _ _ => rfl) (by decide) (by exact locs (scope := scopeOf (stmt7 4)) (binds := [(Str.ofString "sign", .str (one c) tc), (Str.ofString "turn", .int j tj)]) rfl) rfl rfl rfl (fun h1 cd F => ?_)
  have bs1 : B.StaysIn h1 := fun b o e => F.keep b o (bs b o e)
  refine wpAny_execs_cons (wpAny_Return_some (Subscript_ (List_ (spliced_more (wpAny_BinOp (wpAny_BinOp (Calls.Constant_str ?_)))))))
  refine Call_ (ld_global gstr bs1 (PyProof.Rows.callWith_type1 (spliced_more ?_)))
  refine Call_ (ld_global gord bs1 (PyProof.Rows.callWith_builtin1 (spliced_more (ld F rfl (spliced_none (PySem.P.ord_of_char (spliced_none (PySem.P.str_of_int (small_log hc) ?_))))))))
  refine PyProof.Rows.add_str (hsz := by show (Str.ofString "&#").length + (numS c).length ≤ sizeLine; omega) fun ka tka => ?_
  refine Calls.Constant_str (PyProof.Rows.add_str (hsz := by show (Str.ofString "&#" ++ numS c).length + _ ≤ sizeLine; simp only [Str.length_append]; omega) fun kb tkb => ?_)
  refine spliced_more (Calls.Constant_str (spliced_more (Calls.Constant_str (spliced_none (wp_newList (by show 3 ≤ sizeLine; omega) ?_)))))
  dsimp only
  refine wpAny_BinOp (ld (F.push _) rfl (wpAny_Constant_int (mod_int' (by decide) ?_)))
  dsimp only
  rw [mod3]
  refine sub_list_str (M := mendS j c) ⟨_, Heap.get?_push_size _ rfl, rfl, _, rfl⟩ (by omega) (by omega) (pick_mend j c _ _ _) fun u => ?_
  exact h _ _ _ fun b o e => Heap.get?_push_of_some _ (F.keep b o e)
end
end Mine
end
section
open PySem PySem.W PyProof.Rows
open PySem.Builtin PySem.Builtin.Str
namespace Mine

def S9 (l : List Nat) : Str := ⟨l.toArray⟩
theorem S9_list (l : List Nat) : (S9 l).cps.toList = l := by simp [S9]
theorem S9_len (l : List Nat) : (S9 l).length = l.length := by show l.toArray.size = _; simp
theorem S9_app (a b : List Nat) : S9 a ++ S9 b = S9 (a ++ b) := str_ext (by rw [app_list, S9_list, S9_list, S9_list])
theorem S9_of (x : Str) : S9 x.cps.toList = x := str_ext (by rw [S9_list])

abbrev Seg := List Nat × List Nat
def mendL (j : Nat) (r : List Nat) : List Nat := (r.map fun c => (mendS j c).cps.toList).flatten
def mendP : Nat → List Seg → List Nat
  | _, [] => []
  | k, x :: rest => x.1 ++ mendL k x.2 ++ mendP (k + 1) rest
theorem mendP_snoc : ∀ (k : Nat) (P : List Seg) (x : Seg), mendP k (P ++ [x]) = mendP k P ++ x.1 ++ mendL (k + P.length) x.2
  | k, [], x => by simp [mendP]
  | k, y :: P, x => by
    have ih := mendP_snoc (k + 1) P x
    show y.1 ++ mendL k y.2 ++ mendP (k + 1) (P ++ [x]) = y.1 ++ mendL k y.2 ++ mendP (k + 1) P ++ x.1 ++ mendL (k + (P.length + 1)) x.2
    rw [ih, show k + 1 + P.length = k + (P.length + 1) by omega]
    simp only [List.append_assoc]
def flatP (P : List Seg) : List Nat := (P.map fun x => x.1 ++ x.2).flatten
theorem flatP_snoc (P : List Seg) (x : Seg) : flatP (P ++ [x]) = flatP P ++ x.1 ++ x.2 := by simp [flatP]
theorem flatP_cons (P : List Seg) (x : Seg) : flatP (x :: P) = x.1 ++ x.2 ++ flatP P := by simp [flatP]

structure Cut (T : List Nat) (P : List Seg) (t : List Nat) : Prop where
  eq : flatP P ++ t = T
  tail : ∀ c ∈ t, c < 256
  seg : ∀ x ∈ P, (∀ c ∈ x.1, c < 256) ∧ (∀ c ∈ x.2, ¬ c < 256) ∧ x.2 ≠ []
  apart : ∀ x ∈ P.tail, x.1 ≠ []
theorem Cut.zero : Cut [] [] [] := ⟨rfl, by simp, by simp, by simp⟩
theorem Cut.small {T t : List Nat} {P : List Seg} {c : Nat} (C : Cut T P t) (h : c < 256) : Cut (T ++ [c]) P (t ++ [c]) :=
  ⟨by rw [← List.append_assoc, C.eq], fun d hd => by rcases List.mem_append.mp hd with q | q; exact C.tail d q; rw [List.mem_singleton.mp q]; exact h, C.seg, C.apart⟩
theorem Cut.same {T : List Nat} {P : List Seg} {s r : List Nat} {c : Nat} (C : Cut T (P ++ [(s, r)]) []) (h : ¬ c < 256) : Cut (T ++ [c]) (P ++ [(s, r ++ [c])]) [] := by
  refine ⟨?_, by simp, fun x hx => ?_, ?_⟩
  · rw [← C.eq, flatP_snoc, flatP_snoc]; simp only [List.append_nil, List.append_assoc]
  · have hs := C.seg (s, r) (by simp)
    rcases List.mem_append.mp hx with q | q
    · exact C.seg x (List.mem_append_left _ q)
    · rw [List.mem_singleton.mp q]
      refine ⟨hs.1, fun d hd => ?_, by simp⟩
      rcases List.mem_append.mp hd with q | q
      · exact hs.2.1 d q
      · rw [List.mem_singleton.mp q]; exact h
  · have ha := C.apart
    cases P with
    | nil => simp
    | cons y P =>
      intro x hx
      have hx2 : x ∈ P ++ [(s, r ++ [c])] := hx
      rcases List.mem_append.mp hx2 with q | q
      · exact ha x (show x ∈ P ++ [(s, r)] from List.mem_append_left _ q)
      · rw [List.mem_singleton.mp q]; exact ha (s, r) (show (s, r) ∈ P ++ [(s, r)] from by simp)
theorem Cut.new {T t : List Nat} {P : List Seg} {c : Nat} (C : Cut T P t) (h : ¬ c < 256) (ht : t ≠ [] ∨ P = []) : Cut (T ++ [c]) (P ++ [(t, [c])]) [] := by
  refine ⟨?_, by simp, fun x hx => ?_, ?_⟩
  · rw [← C.eq, flatP_snoc]; simp only [List.append_nil, List.append_assoc]
  · rcases List.mem_append.mp hx with q | q
    · exact C.seg x q
    · rw [List.mem_singleton.mp q]
      exact ⟨C.tail, fun d hd => by rw [List.mem_singleton.mp hd]; exact h, by simp⟩
  · cases P with
    | nil => simp
    | cons y P =>
      intro x hx
      have hx2 : x ∈ P ++ [(t, [c])] := hx
      rcases List.mem_append.mp hx2 with q | q
      · exact C.apart x q
      · rw [List.mem_singleton.mp q]; exact ht.resolve_right (by simp)
theorem Cut.none {t : List Nat} {P : List Seg} (C : Cut [] P t) : P = [] ∧ t = [] := by
  have e := C.eq
  have ht : t = [] := (List.append_eq_nil_iff.mp e).2
  refine ⟨?_, ht⟩
  cases P with
  | nil => rfl
  | cons x P =>
    have h1 := (List.append_eq_nil_iff.mp e).1
    rw [flatP_cons] at h1
    have h2 := (List.append_eq_nil_iff.mp (List.append_eq_nil_iff.mp h1).1).2
    exact absurd h2 (C.seg x (by simp)).2.2
theorem snoc_cases {α : Type} (l : List α) : l = [] ∨ ∃ a b, l = a ++ [b] := by
  cases h : l.reverse with
  | nil => left; simpa using h
  | cons b a => right; exact ⟨a.reverse, b, by rw [← List.reverse_reverse l, h]; simp⟩
theorem Cut.last {T t : List Nat} {P : List Seg} {d : Nat} (C : Cut (T ++ [d]) P t) : d < 256 ↔ t ≠ [] := by
  have e := C.eq
  rcases snoc_cases t with rfl | ⟨t0, x, rfl⟩
  · rw [List.append_nil] at e
    refine ⟨fun h => ?_, fun h => absurd rfl h⟩
    rcases snoc_cases P with rfl | ⟨P0, x, rfl⟩
    · simp [flatP] at e
    · have hs := C.seg x (by simp)
      rw [flatP_snoc] at e
      rcases snoc_cases x.2 with q | ⟨r0, y, q⟩
      · exact absurd q hs.2.2
      · rw [q, ← List.append_assoc] at e
        have : y = d := (List.append_inj' e rfl).2 |> List.singleton_inj.mp
        subst this
        exact absurd h (hs.2.1 y (by rw [q]; simp))
  · rw [← List.append_assoc] at e
    have : x = d := (List.append_inj' e rfl).2 |> List.singleton_inj.mp
    subst this
    exact ⟨fun _ => by simp, fun _ => C.tail x (by simp)⟩

def startOf (P : List Seg) (j : Nat) : Nat := (mendP 0 (P.take j)).length + ((P[j]?).map (·.1.length)).getD 0
theorem mendL_small (j : Nat) (r : List Nat) : ∀ c ∈ mendL j r, c < 256 := fun c hc => by
  obtain ⟨l, hl, hcl⟩ := List.mem_flatten.mp hc
  obtain ⟨d, _, rfl⟩ := List.mem_map.mp hl
  exact Nat.lt_trans (mendS_small j d c hcl) (by decide)
theorem mendP_small : ∀ (k : Nat) (P : List Seg), (∀ x ∈ P, ∀ c ∈ x.1, c < 256) → ∀ c ∈ mendP k P, c < 256
  | _, [], _, c, hc => by simp [mendP] at hc
  | k, x :: P, h, c, hc => by
    have hc2 : c ∈ x.1 ++ mendL k x.2 ++ mendP (k + 1) P := hc
    rcases List.mem_append.mp hc2 with q | q
    · rcases List.mem_append.mp q with q | q
      · exact h x (.head _) c q
      · exact mendL_small k x.2 c q
    · exact mendP_small (k + 1) P (fun y hy => h y (.tail _ hy)) c q
theorem mendL_len (j : Nat) : ∀ r : List Nat, (∀ c ∈ r, c < 1114112) → (mendL j r).length ≤ 10 * r.length
  | [], _ => Nat.le_refl _
  | c :: r, h => by
    have ih := mendL_len j r fun d hd => h d (.tail _ hd)
    have hm := mendS_len j (h c (.head _))
    have e : (mendS j c).cps.toList.length = (mendS j c).length := Array.length_toList
    have : mendL j (c :: r) = (mendS j c).cps.toList ++ mendL j r := by simp [mendL]
    rw [this, List.length_append, List.length_cons]; omega
theorem mendP_len : ∀ (k : Nat) (P : List Seg), (∀ c ∈ flatP P, c < 1114112) → (mendP k P).length ≤ 10 * (flatP P).length
  | _, [], _ => Nat.le_refl _
  | k, x :: P, h => by
    rw [flatP_cons] at h ⊢
    have ih := mendP_len (k + 1) P fun c hc => h c (List.mem_append_right _ hc)
    have hm := mendL_len k x.2 fun c hc => h c (List.mem_append_left _ (List.mem_append_right _ hc))
    have : mendP k (x :: P) = x.1 ++ mendL k x.2 ++ mendP (k + 1) P := rfl
    rw [this]; simp only [List.length_append]; omega
theorem flatP_len : ∀ P : List Seg, (∀ x ∈ P, x.2 ≠ []) → P.length ≤ (flatP P).length
  | [], _ => Nat.le_refl _
  | x :: P, h => by
    have ih := flatP_len P fun y hy => h y (.tail _ hy)
    have h1 : 0 < x.2.length := List.length_pos_iff.mpr (h x (.head _))
    rw [flatP_cons]; simp only [List.length_append, List.length_cons]; omega
theorem flatP_append (P Q : List Seg) : flatP (P ++ Q) = flatP P ++ flatP Q := by simp [flatP]

def leftL (P : List Seg) (t : List Nat) (j : Nat) : List Nat := mendP 0 (P.take j) ++ flatP (P.drop j) ++ t
theorem leftL_zero (P : List Seg) (t : List Nat) : leftL P t 0 = flatP P ++ t := by simp [leftL, mendP]
theorem leftL_all (P : List Seg) (t : List Nat) : leftL P t P.length = mendP 0 P ++ t := by simp [leftL, flatP]
def restL (P : List Seg) (t : List Nat) (j : Nat) : List Nat := flatP (P.drop (j + 1)) ++ t
section
variable {T t s r : List Nat} {P : List Seg} {j : Nat}
theorem leftL_at (h : P[j]? = some (s, r)) : leftL P t j = (mendP 0 (P.take j) ++ s) ++ r ++ restL P t j := by
  obtain ⟨hj, e⟩ := List.getElem?_eq_some_iff.mp h
  unfold leftL restL
  rw [List.drop_eq_getElem_cons hj, e, flatP_cons]
  simp only [List.append_assoc]
theorem leftL_next (h : P[j]? = some (s, r)) : leftL P t (j + 1) = (mendP 0 (P.take j) ++ s) ++ mendL j r ++ restL P t j := by
  obtain ⟨hj, e⟩ := List.getElem?_eq_some_iff.mp h
  unfold leftL restL
  rw [List.take_add_one, h, Option.toList_some, mendP_snoc, Nat.zero_add, List.length_take, Nat.min_eq_left (Nat.le_of_lt hj)]
  simp only [List.append_assoc]
theorem start_at (h : P[j]? = some (s, r)) : startOf P j = (mendP 0 (P.take j) ++ s).length := by
  unfold startOf; rw [h, List.length_append]; rfl
theorem Cut.front (C : Cut T P t) (h : P[j]? = some (s, r)) : ∀ c ∈ mendP 0 (P.take j) ++ s, c < 256 := fun c hc => by
  rcases List.mem_append.mp hc with q | q
  · exact mendP_small 0 _ (fun x hx => (C.seg x (List.mem_of_mem_take hx)).1) c q
  · exact (C.seg _ (List.mem_of_getElem? h)).1 c q
theorem Cut.rest (C : Cut T P t) : restL P t j = [] ∨ ∃ c l, restL P t j = c :: l ∧ c < 256 := by
  unfold restL
  cases hd : P.drop (j + 1) with
  | nil =>
    cases t with
    | nil => left; rfl
    | cons c l => right; exact ⟨c, l, by simp [flatP], C.tail c (.head _)⟩
  | cons x Q =>
    right
    have hx : x ∈ P.tail := by
      have : x ∈ P.drop (j + 1) := by rw [hd]; exact .head _
      rw [← List.drop_one]
      rw [show j + 1 = 1 + j by omega, ← List.drop_drop] at this
      exact List.mem_of_mem_drop this
    have h1 := C.apart x hx
    have h2 := (C.seg x (List.mem_of_mem_tail hx)).1
    cases hs : x.1 with
    | nil => exact absurd hs h1
    | cons c l => exact ⟨c, l ++ x.2 ++ flatP Q ++ t, by rw [flatP_cons, hs]; simp, h2 c (by rw [hs]; exact .head _)⟩

theorem lo_small {l : List Nat} (h : ∀ c ∈ l, c < 256) : lo l = l.length := by
  unfold lo
  rw [tw_self l fun c hc => by simpa using h c hc]
theorem lo3 {a r b : List Nat} (ha : ∀ c ∈ a, c < 256) (hr : ∀ c ∈ r, ¬ c < 256) (hn : r ≠ []) : lo (a ++ r ++ b) = a.length := by
  have hp : 0 < r.length := List.length_pos_iff.mpr hn
  rw [List.append_assoc, lo_append, lo_small ha, if_neg (Nat.lt_irrefl _), lo_append, lo_big hr, if_pos hp]; rfl
theorem run3 {a r b : List Nat} (ha : ∀ c ∈ a, c < 256) (hr : ∀ c ∈ r, ¬ c < 256) (hn : r ≠ []) (hb : b = [] ∨ ∃ c l, b = c :: l ∧ c < 256) : runOf (a ++ r ++ b) = r := by
  rw [runOf_eq, lo3 ha hr hn, List.append_assoc, List.drop_left]
  clear hn ha
  induction r with
  | nil =>
    rcases hb with rfl | ⟨c, l, rfl, hc⟩
    · rfl
    · rw [List.nil_append, List.takeWhile_cons, if_neg (by simpa using hc)]
  | cons c r ih =>
    rw [List.cons_append, List.takeWhile_cons, if_pos (by simpa using hr c (.head _)), ih fun d hd => hr d (.tail _ hd)]
theorem hi3 {a r b : List Nat} (ha : ∀ c ∈ a, c < 256) (hr : ∀ c ∈ r, ¬ c < 256) (hn : r ≠ []) (hb : b = [] ∨ ∃ c l, b = c :: l ∧ c < 256) : hi (a ++ r ++ b) = a.length + r.length := by
  have h1 := run3 ha hr hn hb
  have h2 := lo3 (b := b) ha hr hn
  have hp : 0 < r.length := List.length_pos_iff.mpr hn
  have h3 := hi_bounds (l := a ++ r ++ b) (by rw [h2]; simp only [List.length_append]; omega)
  have h4 : (runOf (a ++ r ++ b)).length = hi (a ++ r ++ b) - lo (a ++ r ++ b) := by
    unfold runOf
    rw [List.length_take, List.length_drop]; omega
  rw [h1] at h4
  omega
end
end Mine
end
section
open PySem PySem.W PyProof.Rows
open PySem.Builtin PySem.Builtin.Str
namespace Mine

abbrev encodeS : Str := Str.ofString ".encode('utf-8') if you want to send it encoded in UTF-8."
def name7 (j : Nat) : Str := if j % 3 = 0 then Str.ofString "field-name's value" else if j % 3 = 1 then Str.ofString "100% of x_y" else Str.ofString "iso-8859-1 BODY"
def title7 (j : Nat) : Str := if j % 3 = 0 then Str.ofString "Field-Name'S Value" else if j % 3 = 1 then Str.ofString "100% Of X_Y" else Str.ofString "Iso-8859-1 Body"
theorem title7_eq (j : Nat) : Txt.title (name7 j) = title7 j := by
  unfold name7 title7
  split
  · decide +kernel
  · split <;> decide +kernel
def words7 (j : Nat) (r : List Nat) : Str := ((((title7 j ++ Str.ofString " (") ++ pre (reprText (S9 r)) 20) ++ Str.ofString ") is not valid Latin-1. Use ") ++ name7 j) ++ encodeS
theorem words7_eq {a r b : List Nat} (j : Nat) (ha : ∀ c ∈ a, c < 256) (hr : ∀ c ∈ r, ¬ c < 256) (hn : r ≠ []) (hb : b = [] ∨ ∃ c l, b = c :: l ∧ c < 256) : encWords (name7 j) (S9 (a ++ r ++ b)) = words7 j r := by
  have hm : mid (S9 (a ++ r ++ b)) (lo (S9 (a ++ r ++ b)).cps.toList) (hi (S9 (a ++ r ++ b)).cps.toList) = S9 r := by
    apply str_ext
    rw [mid_run, S9_list, S9_list, run3 ha hr hn hb]
  unfold encWords words7
  rw [hm, title7_eq]
  apply str_ext
  have e0 : Str.empty.cps.toList = [] := rfl
  simp only [app_list, e0, List.nil_append]
  rfl
theorem name7_len (j : Nat) : (name7 j).length ≤ 18 ∧ (title7 j).length ≤ 18 := by
  unfold name7 title7
  split
  · exact ⟨by decide +kernel, by decide +kernel⟩
  · split <;> exact ⟨by decide +kernel, by decide +kernel⟩

def lawBody : List Stmt := bodyOf (stmt7 5)
def lawScope : Scope := scopeOf (stmt7 5)
abbrev envL (L f : Addr) (cd : Value) : Env := envOfC (Str.ofString "law") lawScope L f cd
def valueOf : Stmt → PySem.Expr
  | .Assign _ v _ => v
  | _ => .Constant .none 0 ⟨0, 0, 0, 0⟩
def handlerB : Stmt → List Stmt
  | .Try _ [.ExceptHandler _ _ b _] _ _ _ => b
  | _ => []

structure Ctx (B : Heap) (L : Addr) : Prop where
  bl : B.get? L = none
  bc : B.get? (L + 1) = none
  lim : B.NoLimit
  names : Names B
  fn : ∃ f, EncFn B f ∧ GlobalIs B "_encode" (.ref f)
  sign : ∃ f, FnIs B f (Str.ofString "_law_sign") (stmt7 3) ∧ GlobalIs B "_law_sign" (.ref f)
  mend : ∃ f, FnIs B f (Str.ofString "_law_mend") (stmt7 4) ∧ GlobalIs B "_law_mend" (.ref f)
  gx : GlobalIs B "UnicodeEncodeError" (.type "UnicodeEncodeError")
  gchr : GlobalIs B "chr" (.builtin "chr")
  gord : GlobalIs B "ord" (.builtin "ord")
  glen : GlobalIs B "len" (.builtin "len")
  grepr : GlobalIs B "repr" (.builtin "repr")
  genum : GlobalIs B "enumerate" (.type "enumerate")
  gstr : GlobalIs B "str" (.type "str")
  gtype : GlobalIs B "type" (.type "type")
  gbytes : GlobalIs B "bytes" (.type "bytes")

section
variable {prog : Program} {w : World} {A : Around} {E : Value → Shared → Prop} {s : Shared} {B h : Heap} {f fe L : Addr} {g : Array GenState} {d : Drawn} {tk : Nat} {os : OsState} {cd : Value} {m : Str → Option Value} {x n : Str} {tx tn : Tok}

theorem ldc {x : Str} {pos : Pos} {v : Value} {Q : Value → Shared → Prop} (F : Fr B L s.heap m) (hv : m x = some v) (h : Q v s)
    (hl : (envL L f cd).kindOf x = some .local := by rfl) (hd : (x == ("__debug__" : Str)) = false := by decide) :
    wpAny (model prog w) A (eval (.Name x pos) (envL L f cd)) Q E s := ldLoc F hv h rfl hl hd
theorem storeC {y : Str} {v : Value} {Q : Unit → Shared → Prop} (F : Fr B L h m)
    (hq : ∀ h2, Fr B L h2 (fun z => if z = y then some v else m z) → Kp [L] h h2 → Q () ⟨h2, g, d, tk + 1, os⟩)
    (hl : (envL L f cd).kindOf y = some .local := by rfl) :
    wpAny (model prog w) A (storeName (envL L f cd) y v) Q E ⟨h, g, d, tk, os⟩ :=
  wpAny_storeName_local (s := ⟨h, g, d, tk, os⟩) (m := m) hl F.ns (fun h2 hn2 hs2 => hq h2 (F.set hn2 hs2) (Kp.of_same hs2 (List.mem_singleton.mpr rfl))) rfl
theorem ldCell {pos : Pos} {v : Value} {Q : Value → Shared → Prop} (hc : s.heap.IsCell (L + 1) (some v)) (h : Q v s) :
    wpAny (model prog w) A (eval (.Name (Str.ofString "turn") pos) (envL L f cd)) Q E s :=
  wpAny_Name (wpAny_loadName_cell rfl rfl (c := L + 1) rfl hc h) (by decide)
theorem stCell {v : Value} {v0 : Option Value} {Q : Unit → Shared → Prop} (hc : h.IsCell (L + 1) v0) (hbc : B.get? (L + 1) = none) (F : Fr B L h m)
    (hq : ∀ h2, h2.IsCell (L + 1) (some v) → Fr B L h2 m → Kp [L + 1] h h2 → Q () ⟨h2, g, d, tk, os⟩) :
    wpAny (model prog w) A (storeName (envL L f cd) (Str.ofString "turn") v) Q E ⟨h, g, d, tk, os⟩ :=
  wpAny_storeName_cell (s := ⟨h, g, d, tk, os⟩) rfl rfl (c := L + 1) rfl hc fun h2 hc2 hs2 => by
    have K : Kp [L + 1] h h2 := Kp.of_same hs2 (List.mem_singleton.mpr rfl)
    exact hq h2 hc2 (K.fr (fun p hp => by rw [List.mem_singleton.mp hp]; exact hbc) F (K.ns (by simp) F.ns)) K

theorem law_ff (F : Fr B L h m) : h.FunFrames noHeap [envL L f cd] :=
  Heap.FunFrames.cons (by show lawScope.kind ≠ .module; decide) rfl F.ns (noHeap_get L) trivial
theorem law_keep {h' : Heap} (hbl : B.get? L = none) (F : Fr B L h m) (K : Tch [] [L] h h') : Fr B L h' m ∧ Kp [L] h h' :=
  ⟨⟨K.ns (by simp) F.ns, fun b o e => K.keep b o (F.keep b o e) (by simp) (fun q => by rw [List.mem_singleton.mp q] at e; rw [hbl] at e; cases e), F.above⟩, .of_tch K⟩
theorem fresh_B {p : Addr} (F : Fr B L h m) (e : h.get? p = none) : B.get? p = none := by
  cases q : B.get? p with
  | none => rfl
  | some o => have := F.keep _ _ q; rw [e] at this; cases this

abbrev OkTo (B : Heap) (L : Addr) (h : Heap) (m : Str → Option Value) (g : Array GenState) (d : Drawn) (os : OsState) (x : Str) (R : Result → Shared → Prop) : Prop :=
  loS x = x.cps.toList.length → ∀ h' tk k, Fr B L h' m → Kp [L] h h' → R (.ok (.ret (.bytes (octs x) k))) ⟨h', g, d, tk, os⟩
abbrev BadTo (B : Heap) (L : Addr) (h : Heap) (m : Str → Option Value) (g : Array GenState) (d : Drawn) (os : OsState) (n x : Str) (R : Result → Shared → Prop) : Prop :=
  loS x < x.cps.toList.length → ∀ h' e t T cx t1 t2 t3 t4 t5 tk, Fr B L h' m → Kp [L] h h' → h.get? e = none → h.get? T = none →
    UeAt h' e (.ref t) (.ref T) cx .none (.bool true) .none latinS x (encWords n x) (loS x) (hiS x) t1 t2 t5 → T ≠ e → TB h' T .none →
    h'.get? t = some { cls := .type "tuple", data := .seq (ueArgs latinS x (encWords n x) (loS x) (hiS x) t1 t2 t3 t4 t5).toArray } → R (.error (.ref e)) ⟨h', g, d, tk, os⟩
theorem call_enc2 {R : Result → Shared → Prop} (C : Ctx B L) (hf : EncFn B fe) (hfr : A.frames = some [envL L f cd]) (hh : A.handled = none) (hroom : A.depth < recursionLimit) (F : Fr B L h m) (hx : Fine x) (hnl : n.length ≤ 100000)
    (hok : OkTo B L h m g d os x R) (hbad : BadTo B L h m g d os n x R) : codeAny (model prog w) A (.call (.ref fe) ⟨[.str x tx, .str n tn], []⟩) R ⟨h, g, d, tk, os⟩ := by
  have hlt : L < h.objs.size := F.ns.lt
  refine Mine.enc_call2 (outer := [envL L f cd]) hf hfr hh hroom F.keep (Nat.le_of_lt (Nat.lt_of_le_of_lt F.above hlt)) (fun a ha => by rw [List.mem_singleton.mp ha]; exact C.bl) (law_ff F) C.names C.lim hx hnl (fun hlo h' tk k K => ?_)
    fun hlo h' e t T cx t1 t2 t3 t4 t5 tk K ne nt nT ue hT tb tu => ?_
  · exact hok hlo h' tk k (law_keep C.bl F K).1 (law_keep C.bl F K).2
  · exact hbad hlo h' e t T cx t1 t2 t3 t4 t5 tk (law_keep C.bl F K).1 (law_keep C.bl F K).2 ne nT ue hT tb tu
theorem call_enc1 {R : Result → Shared → Prop} (C : Ctx B L) (hf : EncFn B fe) (hfr : A.frames = some [envL L f cd]) (hh : A.handled = none) (hroom : A.depth < recursionLimit) (F : Fr B L h m) (hx : Fine x)
    (hok : OkTo B L h m g d os x R) (hbad : BadTo B L h m g d os (Str.ofString "data") x R) : codeAny (model prog w) A (.call (.ref fe) ⟨[.str x tx], []⟩) R ⟨h, g, d, tk, os⟩ := by
  have hlt : L < h.objs.size := F.ns.lt
  refine Mine.enc_call1 (outer := [envL L f cd]) hf hfr hh hroom F.keep (Nat.le_of_lt (Nat.lt_of_le_of_lt F.above hlt)) (fun a ha => by rw [List.mem_singleton.mp ha]; exact C.bl) (law_ff F) C.names C.lim hx (fun hlo h' tk k K => ?_)
    fun hlo h' e t T cx t1 t2 t3 t4 t5 tk K ne nt nT ue hT tb tu => ?_
  · exact hok hlo h' tk k (law_keep C.bl F K).1 (law_keep C.bl F K).2
  · exact hbad hlo h' e t T cx t1 t2 t3 t4 t5 tk (law_keep C.bl F K).1 (law_keep C.bl F K).2 ne nT ue hT tb tu

theorem type_ev {v : Value} {T : String} {np ap pos : Pos} {n : Str} {Q : Value → Shared → Prop} (C : Ctx B L) (F : Fr B L s.heap m) (ms : m n = some v) (hv : s.TypeIs v T) (hT : (Value.type T == Value.type "builtin_function_or_method") = false)
    (hq : Q (.type T) s) (k1 : (envL L f cd).kindOf n = some .local := by rfl) (d1 : (n == ("__debug__" : Str)) = false := by decide) :
    wpAny (model prog w) A (eval (.Call (.Name "type" np) [.Name n ap] [] pos) (envL L f cd)) Q E s :=
  Call_ (ld_global C.gtype F.keep (PyProof.Rows.callWith_type1 (spliced_more (wpAny_Name (wpAny_loadName_local rfl k1 F.ns ms (spliced_none (call_type_of hv hT hq))) d1))))
theorem ord_ev {c : Nat} {ts : Tok} {np ap pos : Pos} {n : Str} {Q : Value → Shared → Prop} (C : Ctx B L) (F : Fr B L s.heap m) (ms : m n = some (.str (one c) ts)) (hq : ∀ k tk, Q (.int c k) { s with toks := tk })
    (k1 : (envL L f cd).kindOf n = some .local := by rfl) (d1 : (n == ("__debug__" : Str)) = false := by decide) :
    wpAny (model prog w) A (eval (.Call (.Name "ord" np) [.Name n ap] [] pos) (envL L f cd)) Q E s :=
  Call_ (ld_global C.gord F.keep (PyProof.Rows.callWith_builtin1 (spliced_more (wpAny_Name (wpAny_loadName_local rfl k1 F.ns ms (spliced_none (PySem.P.ord_of_char (hq _ _)))) d1))))
theorem ne5 {p q : Addr} {a x c : Str} {i j : Int} {a1 a2 a3 a4 a5 b1 b2 b3 b4 b5 : Tok} {Q : Value → Shared → Prop}
    (hp : s.heap.get? p = some { cls := .type "tuple", data := .seq #[.str a a1, .str x a2, .int i a3, .int j a4, .str c a5] })
    (hq : s.heap.get? q = some { cls := .type "tuple", data := .seq #[.str a b1, .str x b2, .int i b3, .int j b4, .str c b5] }) (hu : A.units < cLine) (h : Q (.bool false) s) :
    wpAny (model prog w) A (compareOp .NotEq (.ref p) (.ref q)) Q E s := by
  refine (?_ : SeqAt.RcNeAt A s (.ref p) (.ref q) false) _ _ _ _ h
  refine SeqAt.RcNeAt.tuples (e := fun _ => true) ⟨_, hp, rfl, _, rfl⟩ ⟨_, hq, rfl, _, rfl⟩ hu fun k h1 h2 => ?_
  match k, h1, h2 with
  | 0, _, _ => have := SeqAt.EqAt.str_str (A := A.in1) (s := s) a a1 a b1; simpa using this
  | 1, _, _ => have := SeqAt.EqAt.str_str (A := A.in1) (s := s) x a2 x b2; simpa using this
  | 2, _, _ => have := SeqAt.EqAt.int_int (A := A.in1) (s := s) i a3 i b3; simpa using this
  | 3, _, _ => have := SeqAt.EqAt.int_int (A := A.in1) (s := s) j a4 j b4; simpa using this
  | 4, _, _ => have := SeqAt.EqAt.str_str (A := A.in1) (s := s) c a5 c b5; simpa using this
theorem is_type_same {X : String} {Q : Value → Shared → Prop} (h : Q (.bool true) s) : wpAny (model prog w) A (compareOp .Is (.type X) (.type X)) Q E s := by
  have e : (Value.type X == Value.type X) = true := by simp
  exact wpAny_pure (a := Value.bool (Value.type X == Value.type X)) (by rw [e]; exact h)
end
end Mine
end
section
open PySem PySem.W PyProof.Rows
open PySem.Builtin PySem.Builtin.Str
namespace Mine

section
variable {prog : Program} {w : World} {A : Around} {E : Value → Shared → Prop} {B h : Heap} {g : Array GenState} {d : Drawn} {tk : Nat} {os : OsState} {L f : Addr} {cd : Value} {m : Str → Option Value} 

theorem caughtC {Q : Flow → Shared → Prop} {P : Flow → (Str → Option Value) → Prop} {e T : Addr} {X Y : String} {dd : Option Addr} {vs : Array Value} {sl : Array (Option Value)} {n : Str} {b₀ : Stmt} {suite : List Stmt} {p1 pos : Pos} {rest : List ExceptHandler}
    (hfr : A.frames = some [envL L f cd]) (hBL : B.get? L = none) (F : Fr B L h m) (gy : GlobalIs B (Str.ofString Y) (.type Y)) (hBe : B.get? e = none) (hBT : B.get? T = none)
    (he : h.get? e = some ⟨.type X, dd, .fields vs, sl⟩) (h1 : vs[1]? = some (.ref T)) (hT : TB h T .none) (hTe : T ≠ e)
    (hexc : isSubtype (.type Y) (.type "BaseException") = pure true) (hnt : isSubtype (.type ((Manifest.find? Y).elim "type" fun x => x.metatype)) (.type "tuple") = pure false) (hsub : isSubtype (.type X) (.type Y) = pure true)
    (hbody : ∀ h' tk' T' (E' : Value → Shared → Prop), Fr B L h' (fun y => if y = n then some (.ref e) else m y) → Kp [L, e, T] h h' → h'.get? e = some ⟨.type X, dd, .fields (vs.setIfInBounds 1 (.ref T')), sl⟩ →
      wpAny (model prog w) (A.mark (some (.ref e))) (execs (b₀ :: suite) (envL L f cd)) (fun fl s' => ∃ h2 m2 tk2, s' = ⟨h2, g, d, tk2, os⟩ ∧ Fr B L h2 m2 ∧ Kp [L] h' h2 ∧ P fl m2) E' ⟨h', g, d, tk', os⟩)
    (hq : ∀ fl h3 m2 v tk3, P fl m2 → Fr B L h3 (fun y => if y = n then v else m2 y) → Kp [L, e, T] h h3 → Q fl ⟨h3, g, d, tk3, os⟩)
    (hn : (envL L f cd).kindOf n = some .local := by rfl) (hy : (envL L f cd).kindOf (Str.ofString Y) = some .globalImplicit := by rfl) (hdb : (Str.ofString Y == ("__debug__" : Str)) = false := by decide) :
    wpAny (model prog w) A (noteFrame (.ref e) (envL L f cd)) (fun _ s₂ => wpAny (model prog w) A (setFlight (.ref e) none) (fun _ s₃ =>
      wpAny (model prog w) A (handleBy (.ref e) (envL L f cd) (.ExceptHandler (some (.Name (Str.ofString Y) p1)) (some n) (b₀ :: suite) pos :: rest)) Q E s₃) E s₂) E ⟨h, g, d, tk, os⟩ := by
  have hkm : (envL L f cd).scope.kind ≠ .module := by show lawScope.kind ≠ .module; decide
  have hff : h.FunFrames noHeap [envL L f cd] := Heap.FunFrames.cons hkm rfl F.ns (noHeap_get L) trivial
  have hfm : ([envL L f cd] : List Env).filterMap (·.frame) = [L] := rfl
  have hp : ((envL L f cd).scope.kind == .class || ((envL L f cd).scope.kind == .module && (envL L f cd).locals != (envL L f cd).globals)) = false := by
    rfl
  have eL : e ≠ L := not_frame F.ns he (fun _ _ q => by cases q)
  have step : ∀ {h1 h2 : Heap} {xs : List Addr} {m1 : Str → Option Value}, Tch xs [L] h1 h2 → L ∉ xs → (∀ a ∈ xs, B.get? a = none) → Fr B L h1 m1 → Fr B L h2 m1 := fun x hL hx F1 =>
    ⟨x.ns hL F1.ns, fun b o eb => x.keep b o (F1.keep b o eb) (fun q => by rw [hx b q] at eb; cases eb) (fun q => by rw [List.mem_singleton.mp q, hBL] at eb; cases eb), F1.above⟩
  obtain ⟨oT, ts, hT1, hT2, hT3⟩ := id hT
  have TL : T ≠ L := not_frame F.ns hT1 (fun _ _ q => by rw [hT2] at q; cases q)
  refine note_next hfr hff rfl he h1 hT hTe fun h3 T3 K3 hl3 hT3' hTe3 ex3 tb3 => ?_
  rw [hfm] at K3
  have F3 := step K3 (by simp [eL.symm, TL.symm]) (by intro a ha; simp at ha; rcases ha with rfl | rfl <;> assumption) F
  have hv1 : 1 < vs.size := (Array.getElem?_eq_some_iff.mp h1).1
  have hg1 : (vs.setIfInBounds 1 (.ref T3))[1]? = some (.ref T3) := by simp [hv1]
  have hBT3 : B.get? T3 = none := by
    cases q : B.get? T3 with
    | none => rfl
    | some o => have := F.keep _ _ q; rw [hT3'] at this; cases this
  have T3L : ∀ {h : Heap} {m : Str → Option Value} {fl : Value}, h.Ns L m → TB h T3 fl → T3 ≠ L := fun hn ⟨oT, ts, a1, a2, _⟩ => not_frame hn a1 (fun _ _ q => by rw [a2] at q; cases q)
  refine set_flight ex3 (T := T3) hg1 tb3 fun h4 u4 tb4 => ?_
  have F4 := step (Tch.of_up1 (fs := [L]) u4 (List.mem_singleton.mpr rfl)) (by simpa using (T3L F3.ns tb3).symm) (by simpa using hBT3) F3
  have ex4 := (u4.same e (Ne.symm hTe3)).trans ex3
  refine wpAny_handleBy_builtin_as (X := X) (T := Y) (b := true) hexc hnt hsub (ld_global gy F4.keep ⟨rfl, ⟨_, ex4, rfl⟩, ?_⟩ rfl hy rfl rfl hdb)
  rw [if_pos rfl]
  refine set_flight ex4 (T := T3) hg1 tb4 fun h5 u5 tb5 => ?_
  have F5 := step (Tch.of_up1 (fs := [L]) u5 (List.mem_singleton.mpr rfl)) (by simpa using (T3L F4.ns tb4).symm) (by simpa using hBT3) F4
  have ex5 := (u5.same e (Ne.symm hTe3)).trans ex4
  refine storeC (m := m) F5 (fun h6 F6 K6 => ?_) hn
  have ex6 := K6.get F5.ns ex5 (fun _ _ q => by cases q)
  have K36 : Kp [L, e, T] h h6 := by
    have k3 : Kp [L, e, T] h h3 := fun p o eo np => K3.keep p o eo (fun q => np (by simp at q ⊢; rcases q with rfl | rfl <;> simp)) (fun q => np (by rw [List.mem_singleton.mp q]; simp))
    have k4 : ∀ p o, h3.get? p = some o → p ≠ T3 → h5.get? p = some o := fun p o eo np => (u5.same p np).trans ((u4.same p np).trans eo)
    exact fun p o eo np => K6 p o (k4 p o (k3 p o eo np) (fun q => by rw [q, hT3'] at eo; cases eo)) (fun q => np (by rw [List.mem_singleton.mp q]; simp))
  refine wpAny_mono (hbody h6 _ T3 _ F6 K36 ex6) (fun fl s' hs => ?_) fun _ _ q => q
  obtain ⟨h7, m7, tk7, rfl, F7, K7, hP⟩ := hs
  refine wpAny_nameGoes_keeps (env := envL L f cd) hn F7.ns hp fun h8 v hn8 hs8 => ?_
  exact hq fl h8 m7 v _ hP (F7.set hn8 hs8) ((K36.trans (K7.mono (by simp))).trans (Kp.of_same hs8 (.head _)))
end
end Mine
end
section
open PySem PySem.W PyProof.Rows
open PySem.Builtin PySem.Builtin.Str
namespace Mine

def turnB : List Stmt := forBodyOf (nth lawBody 7)
def checkB : List Stmt := handlerB (nth turnB 4)
def firstB : List Stmt := forBodyOf (nth lawBody 5)
abbrev listObj (vs : List Value) (n : Nat) : Obj := { cls := .type "list", data := .seq vs.toArray n }

section
variable {prog : Program} {w : World} {A : Around} {E : Value → Shared → Prop} {s : Shared} {B h : Heap} {f L : Addr} {g : Array GenState} {d : Drawn} {tk : Nat} {os : OsState} {cd : Value} {m : Str → Option Value}

theorem check_ok {e t r : Addr} {v1 v2 v3 v4 v5 : Value} {x c : Str} {i j : Int} {t1 t2 t3 t4 t5 b1 b2 b3 b4 b5 : Tok} (C : Ctx B L) (hu : A.units + 64 < cLine) (F : Fr B L h m) (me : m "err" = some (.ref e)) (mr : m "row" = some (.ref r))
    (ue' : UeAt h e (.ref t) v1 v2 v3 v4 v5 latinS x c i j t1 t2 t5) (ht : h.get? t = some { cls := .type "tuple", data := .seq (ueArgs latinS x c i j t1 t2 t3 t4 t5).toArray })
    (hr : h.get? r = some { cls := .type "tuple", data := .seq #[.str latinS b1, .str x b2, .int i b3, .int j b4, .str c b5] }) :
    wpAny (model prog w) A (execs checkB (envL L f cd)) (fun fl s' => ∃ h2 m2 tk2, s' = ⟨h2, g, d, tk2, os⟩ ∧ Fr B L h2 m2 ∧ Kp [L] h h2 ∧ fl = .next ∧ ∀ y : Str, y ≠ "told" → m2 y = m y) E ⟨h, g, d, tk, os⟩ := by
  have hsl : sizeLine = 16777216 := rfl
  refine wpAny_execs_cons (wpAny_Assign_Name (Tuple_ ?_))
  refine spliced_more (Attribute_name (ldc F me (at_encoding ue' ?_)))
  refine spliced_more (Attribute_name (ldc F me (at_object ue' ?_)))
  refine spliced_more (Attribute_name (ldc F me (at_start ue' ?_)))
  refine spliced_more (Attribute_name (ldc F me (at_end ue' ?_)))
  refine spliced_more (Attribute_name (ldc F me (at_reason ue' (spliced_none (wpAny_newTuple ?_)))))
  dsimp only
  generalize hto : ({ cls := .type "tuple", data := .seq _ } : Obj) = tobj
  have hp := Heap.get?_push_size h (o := tobj) (by rw [← hto]; rfl)
  refine storeC (F.push tobj) (fun h2 F2 K2 => ?_)
  have ke : ∀ {b o}, h.get? b = some o → (∀ es n, o.data ≠ .dict es n) → h2.get? b = some o := fun e hd => K2.get (F.push tobj).ns (Heap.get?_push_of_some _ e) hd
  have hp2 := K2.get (F.push tobj).ns hp (fun _ _ q => by rw [← hto] at q; cases q)
  have ue2 : UeAt h2 e (.ref t) v1 v2 v3 v4 v5 latinS x c i j t1 t2 t5 := ke ue' (fun _ _ q => by cases q)
  have ht2 := ke ht (fun _ _ q => by cases q)
  have hr2 := ke hr (fun _ _ q => by cases q)
  subst hto
  refine wpAny_execs_cons (wpAny_If (wpAny_isTrue_BoolOp (wpAny_allTrue_Or_cons (wpAny_isTrue_Compare1 (type_ev C F2 (un me) (T := "UnicodeEncodeError") ⟨_, ue2, rfl⟩ (by decide) (ld_global C.gx F2.keep (isnot_type_same (wpAny_truthy_bool ?_))))))))
  rw [if_neg (by decide)]
  refine wpAny_allTrue_Or_cons (wpAny_isTrue_Compare1 (ldc F2 ue (ldc F2 (un mr) (ne5 hp2 hr2 (by omega) (wpAny_truthy_bool ?_)))))
  rw [if_neg (by decide)]
  refine wpAny_allTrue_Or_cons (wpAny_isTrue_Compare1 (Attribute_name (ldc F2 (un me) (at_args ue2 (ldc F2 (un mr) (ne5 ht2 hr2 (by omega) (wpAny_truthy_bool ?_)))))))
  rw [if_neg (by decide)]
  refine wpAny_allTrue_Or_nil ?_
  rw [if_neg (by decide)]
  exact wpAny_execs_nil (wpAny_execs_nil ⟨h2, _, _, rfl, F2, (Kp.of_stays fun b o e => Heap.get?_push_of_some _ e).trans K2, rfl, fun y hy => if_neg hy⟩)

theorem asg2c {x y : Str} {p1 p2 pos : Pos} {k : Nat} {p : Addr} {v1 v2 : Value} {Q : Unit → Shared → Prop} (hh : A.handled = none) (F : Fr B L h m) (hp : h.IsTuple p #[v1, v2])
    (hq : ∀ h' tk', Fr B L h' (fun z => if z = y then some v2 else if z = x then some v1 else m z) → Kp [L] h h' → Q () ⟨h', g, d, tk', os⟩)
    (hx : (envL L f cd).kindOf x = some .local := by rfl) (hy : (envL L f cd).kindOf y = some .local := by rfl) :
    wpAny (model prog w) A (assign (.Tuple [.Name x p1, .Name y p2] k pos) (envL L f cd) (.ref p)) Q E ⟨h, g, d, tk, os⟩ := by
  refine wpAny_assign_Tuple (s := ⟨h, g, d, tk, os⟩) hh hp rfl rfl fun h1 he1 => ?_
  have k1 : h.StaysIn h1 := fun b o e => he1 b o (Nat.ne_of_lt (Heap.lt_size e)) e
  have F1 : Fr B L h1 m := ⟨F.ns.keeps k1, fun b o e => k1 b o (F.keep b o e), F.above⟩
  refine assignInOrder_cons (assign_Name (storeC F1 (fun h2 F2 K2 => ?_) hx))
  exact assignInOrder_cons (assign_Name (storeC F2 (fun h3 F3 K3 => assignInOrder_nil (hq h3 _ F3 (((Kp.of_stays k1).trans K2).trans K3))) hy))

theorem asgL2c {x y : Str} {p2 p3 pos2 : Pos} {k2 : Nat} {a : Addr} {v2 v3 : Value} {Q : Unit → Shared → Prop} (hh : A.handled = none) (F : Fr B L h m) (ha : h.IsList a #[v2, v3])
    (hq : ∀ h' tk', Fr B L h' (fun z => if z = y then some v3 else if z = x then some v2 else m z) → Kp [L] h h' → Q () ⟨h', g, d, tk', os⟩)
    (hx : (envL L f cd).kindOf x = some .local := by rfl) (hy : (envL L f cd).kindOf y = some .local := by rfl) :
    wpAny (model prog w) A (assign (.Tuple [.Name x p2, .Name y p3] k2 pos2) (envL L f cd) (.ref a)) Q E ⟨h, g, d, tk, os⟩ := by
  rw [PyProof.Rows.assign_Tuple]
  refine wpAny_bind (wpAny_standAt ?_)
  refine wpAny_bind (wpAny_holding (kun_itemsOf (s := ⟨h, g, d, tk, os⟩) (items := #[v2, v3]) hh ha fun h3 he3 => ?_))
  have k3 : h.StaysIn h3 := fun b o e => he3 b o (Nat.ne_of_lt (Heap.lt_size e)) e
  have F3 : Fr B L h3 m := ⟨F.ns.keeps k3, fun b o e => k3 b o (F.keep b o e), F.above⟩
  refine assignInOrder_cons (assign_Name (storeC F3 (fun h4 F4 K4 => ?_) hx))
  exact assignInOrder_cons (assign_Name (storeC F4 (fun h5 F5 K5 => assignInOrder_nil (hq h5 _ F5 (((Kp.of_stays k3).trans K4).trans K5))) hy))
theorem icell {L : Addr} {h1 h2 : Heap} {v : Option Value} {xs : List Addr} (hc : h1.IsCell (L + 1) v) (K : Kp xs h1 h2) (hx : L + 1 ∉ xs) : h2.IsCell (L + 1) v := by
  obtain ⟨o, ho, hd⟩ := hc
  exact ⟨o, K _ _ ho hx, hd⟩
theorem not_cell {L a : Addr} {h : Heap} {v : Option Value} {items : Array Value} (hc : h.IsCell (L + 1) v) (ha : h.IsList a items) : a ≠ L + 1 := fun q => by
  obtain ⟨o, ho, _, n, hd⟩ := ha
  obtain ⟨o', ho', hd'⟩ := hc
  rw [q, ho'] at ho; cases ho; rw [hd'] at hd; cases hd

theorem asg3c {x y : Str} {p1 p2 p3 pos pos2 : Pos} {k k2 : Nat} {p a : Addr} {v1 v2 v3 : Value} {v0 : Option Value} {Q : Unit → Shared → Prop} (hh : A.handled = none) (F : Fr B L h m) (hp : h.IsTuple p #[v1, .ref a]) (ha : h.IsList a #[v2, v3])
    (hc : h.IsCell (L + 1) v0) (hbc : B.get? (L + 1) = none)
    (hq : ∀ h' tk', Fr B L h' (fun z => if z = y then some v3 else if z = x then some v2 else m z) → h'.IsCell (L + 1) (some v1) → Kp [L, L + 1] h h' → Q () ⟨h', g, d, tk', os⟩)
    (hx : (envL L f cd).kindOf x = some .local := by rfl) (hy : (envL L f cd).kindOf y = some .local := by rfl) :
    wpAny (model prog w) A (assign (.Tuple [.Name (Str.ofString "turn") p1, .Tuple [.Name x p2, .Name y p3] k2 pos2] k pos) (envL L f cd) (.ref p)) Q E ⟨h, g, d, tk, os⟩ := by
  refine wpAny_assign_Tuple (s := ⟨h, g, d, tk, os⟩) hh hp rfl rfl fun h1 he1 => ?_
  have k1 : h.StaysIn h1 := fun b o e => he1 b o (Nat.ne_of_lt (Heap.lt_size e)) e
  have F1 : Fr B L h1 m := ⟨F.ns.keeps k1, fun b o e => k1 b o (F.keep b o e), F.above⟩
  have hc1 : h1.IsCell (L + 1) v0 := icell hc (.of_stays (xs := []) k1) List.not_mem_nil
  have ha1 : h1.IsList a #[v2, v3] := by
    obtain ⟨o, ho, r⟩ := ha
    exact ⟨o, k1 _ _ ho, r⟩
  refine assignInOrder_cons (assign_Name (stCell hc1 hbc F1 (fun h2 hc2 F2 K2 => ?_)))
  have ha2 : h2.IsList a #[v2, v3] := by
    obtain ⟨o, ho, r⟩ := id ha1
    exact ⟨o, K2 _ _ ho (fun q => not_cell hc1 ha1 (List.mem_singleton.mp q)), r⟩
  have nL : L + 1 ∉ [L] := fun q => absurd (List.mem_singleton.mp q) (Nat.succ_ne_self L)
  refine assignInOrder_cons (asgL2c (k2 := k2) hh F2 ha2 (fun h' tk' F3 K3 => assignInOrder_nil (hq h' tk' F3 (icell hc2 K3 nL) ?_)) hx hy)
  exact ((Kp.of_stays k1).trans (K2.mono fun p hp => .tail _ hp)).trans (K3.mono fun p hp => by rw [List.mem_singleton.mp hp]; exact .head _)
end

section
variable {prog : Program} {w : World} {A : Around} {E : Value → Shared → Prop} {B h0 : Heap} {g : Array GenState} {d : Drawn} {tk0 : Nat} {os : OsState} {L : Addr} {env : Env} {m0 : Str → Option Value}
theorem for_pairs {I : Addr} {fp wr : List Addr} {n : Nat} {Pt : Nat → Array Value → Prop} {St : Nat → Heap → Prop} {Mid : Nat → Addr → Heap → Prop} {elts : List PySem.Expr} {k : Nat} {pos : Pos} {body : List Stmt} {R : Result → Shared → Prop}
    (W : WalksT prog w A I fp wr n Pt St Mid) (hwL : L ∉ wr) (hB : ∀ b ∈ wr, B.get? b = none) (live : ∀ i h, St i h → ∀ b ∈ fp, ∃ o, h.get? b = some o)
    (J : Nat → (Str → Option Value) → Heap → Prop) (jst : ∀ i m h h', J i m h → Kp wr h h' → J i m h')
    (F0 : Fr B L h0 m0) (st0 : St 0 h0) (j0 : J 0 m0 h0)
    (turn : ∀ i m h tk T vals (E' : Value → Shared → Prop), i < n → J i m h → Pt i vals → h.IsTuple T vals → Fr B L h m → (∀ b ∈ fp, ∃ o, h.get? b = some o) →
      wpAny (model prog w) A (assign (.Tuple elts k pos) env (.ref T)) (fun _ s2 => wpAny (model prog w) A (execs body env) (fun f s3 => f = .next ∧ ∃ m3 h3 tk3, s3 = ⟨h3, g, d, tk3, os⟩ ∧ Fr B L h3 m3 ∧
        (∀ b ∈ fp, ∀ o, h.get? b = some o → h3.get? b = some o) ∧ J (i + 1) m3 h3) E' s2) E' ⟨h, g, d, tk, os⟩)
    (fin : ∀ m h tk, J n m h → Fr B L h m → R (.ok .next) ⟨h, g, d, tk, os⟩) :
    codeAny (model prog w) A (.forLoop (.Tuple elts k pos) (.ref I) body [] env) R ⟨h0, g, d, tk0, os⟩ := by
  refine codeAny_forLoop_any (fun k s' => ∃ h tk m i, s' = ⟨h, g, d, tk, os⟩ ∧ St i h ∧ Fr B L h m ∧ J i m h ∧ i ≤ n ∧ k = n - i) ?_ n
    ⟨h0, tk0, m0, 0, rfl, st0, F0, j0, Nat.zero_le _, rfl⟩
  rintro k s' ⟨h, tk, m, i, rfl, st, F, j, hi, rfl⟩
  rcases Nat.lt_or_ge i n with hlt | hge
  · refine W.item i _ _ _ hlt st fun T vals h1 tk1 hv _ hT hm k1 => ?_
    have K1 : Kp wr h h1 := fun b o e nq => k1 b o nq e
    have F1 : Fr B L h1 m := K1.fr hB F (K1.ns hwL F.ns)
    refine W.go _ _ _ i T ⟨h1, g, d, tk1, os⟩ _ _ hm fun h2 st2 k2 => ?_
    have K2 : Kp wr h1 h2 := fun b o e nq => k2 b o nq e
    have F2 : Fr B L h2 m := K2.fr hB F1 (K2.ns hwL F1.ns)
    have hT2 : h2.IsTuple T vals := by
      obtain ⟨o, ho, r⟩ := hT
      exact ⟨o, K2 _ _ ho (W.apart _ _ _ hm), r⟩
    refine wpAny_mono (turn i m h2 tk1 T vals _ hlt (jst _ _ _ _ (jst _ _ _ _ j K1) K2) hv hT2 F2 (live _ _ st2)) (fun _ s2 hs2 => wpAny_mono hs2 (fun f s3 h3 => ?_) fun _ _ q => q) fun _ _ q => q
    obtain ⟨rfl, m3, h3, tk3, rfl, F3, kf, j3⟩ := h3
    exact ⟨n - (i + 1), by omega, h3, tk3, m3, i + 1, rfl, W.frame _ _ _ st2 kf, F3, j3, hlt, rfl⟩
  · obtain rfl : i = n := Nat.le_antisymm hi hge
    refine W.done _ _ _ st fun h1 tk1 k1 => wpAny_execs_nil ?_
    have K1 : Kp wr h h1 := fun b o e nq => k1 b o nq e
    exact fin m h1 tk1 (jst _ _ _ _ j K1) (K1.fr hB F (K1.ns hwL F.ns))
end
end Mine
end
section
open PySem PySem.W PyProof.Rows
open PySem.Builtin PySem.Builtin.Str
namespace Mine

def leftOf : PySem.Expr → PySem.Expr
  | .BinOp l _ _ _ => l
  | _ => .Constant .none 0 ⟨0, 0, 0, 0⟩
def joinE : PySem.Expr := leftOf (valueOf (nth lawBody 2))
def tail7 : List Nat := [256, 233, 8364, 8364, 122, 258]
theorem tail7_eq : Str.ofString "Āé€€zĂ" = S9 tail7 := by decide +kernel
def text7 (ns : List Int) : List Nat := ns.map codeOf ++ tail7
theorem text7_eq (ns : List Int) : textOf ns ++ S9 tail7 = S9 (text7 ns) := S9_app _ _
theorem text7_lt (ns : List Int) : ∀ c ∈ text7 ns, c < 1114112 := fun c hc => by
  rcases List.mem_append.mp hc with q | q
  · obtain ⟨a, _, rfl⟩ := List.mem_map.mp q; exact codeOf_lt a
  · have : ∀ c ∈ tail7, c < 1114112 := by decide
    exact this c q
theorem text7_len (ns : List Int) : (text7 ns).length = ns.length + 6 := by simp [text7, tail7]

section
variable {prog : Program} {w : World} {A : Around} {E : Value → Shared → Prop} {s : Shared} {B : Heap} {L f l : Addr} {cd : Value} {m : Str → Option Value}

theorem join_ev {Q : Value → Shared → Prop} {vs : List Value} {ns : List Int} (C : Ctx B L) (hh : A.handled = none) (hroom : A.depth < recursionLimit)
    (F : Fr B L s.heap m) (hm : m "script" = some (.ref l)) (hl : B.IsList l vs.toArray) (hI : IntsAre vs ns) (hn : ns.length ≤ 63)
    (hq : ∀ h' tk k, s.heap.StaysIn h' → Q (.str (textOf ns) k) { s with heap := h', toks := tk }) :
    wpAny (model prog w) A (eval joinE (envL L f cd)) Q E s := by
  obtain ⟨fS, hS, gS⟩ := C.sign
  refine MethodCall_ (Calls.Constant_str (GM.join (callWith_method1 (spliced_more ?_))))
  refine wpAny_ListComp_map (fun _ => true) (fun v y => ∃ a t u, v = .int a t ∧ y = .str (signOf a) u) hh (by decide) (by decide) rfl (by decide) rfl ?_
  have hsl : sizeLine = 16777216 := rfl
  have hvl := hI.length
  refine ldc F hm ⟨l, vs.toArray, rfl, ?_, ?_, ?_, ?_, ?_⟩
  · obtain ⟨o, ho, r⟩ := hl
    exact ⟨o, F.keep _ _ ho, r⟩
  · rw [List.size_toArray]; omega
  · intro C v s2 m2 E' hv hn2 hm2 hk2
    exact wpAny_pure ⟨rfl, s2.heap, s2.toks, rfl, fun _ _ e => e⟩
  · intro C' v s2 m2 E' hv hpv hn2 hm2 hk2
    obtain ⟨a, t, rfl⟩ := int_of_mem hI (by simpa using hv)
    have bs2 : B.StaysIn s2.heap := fun b o e => hk2 b o (F.keep b o e)
    obtain ⟨o, doc, pm, cdv, ct, an, ho, hdat, hcd⟩ := id hS
    refine Call_ (ld_global gS bs2 (callWith_def hdat (spliced_more (wpAny_Name (wpAny_loadName_local rfl rfl hn2 hm2 (spliced_none ⟨bs2 _ _ ho, ?_⟩)) (by decide)))))
    refine wpAny_call (sign_call hS hroom bs2 C.lim C.gchr fun h' tk k st => ?_)
    exact ⟨⟨a, t, k, rfl, rfl⟩, h', tk, rfl, st⟩
  · intro D h' tk ys hD hys hp hk
    have hst : StrsAre ys.toList (ns.map signOf) := strs_of_paired (fun _ _ x => x) (by rw [show vs.toArray.toList.filter (fun _ => true) = vs from List.filter_eq_self.mpr fun _ _ => rfl] at hp; exact hp) hI
    have e1 : (ns.map signOf) = (ns.map codeOf).map (fun k => (⟨#[k]⟩ : Str)) := by
      rw [List.map_map]; exact List.map_congr_left fun a _ => signOf_eq a
    refine spliced_none (join_listC hys hst (by decide +kernel) ?_ fun k2 tk2 => ?_)
    · have e2 := len_signs ns
      rw [List.length_map]
      omega
    · have e3 : Txt.join (Str.ofString "") (ns.map signOf) = textOf ns := by
        have e4 : Str.ofString "" = ⟨#[]⟩ := by decide +kernel
        rw [e1, e4]
        show Builtin.Str.glued _ _ = _
        rw [StrLaws.glued_eq_join]
        exact join_ones _
      rw [e3]
      exact hq _ _ _ (fun b o e => hk b o e)
end

structure RunsAt (B : Heap) (X : List Addr) (h : Heap) (Rs : List Value) (P : List Seg) : Prop where
  len : Rs.length = P.length
  at_ : ∀ j s r, P[j]? = some (s, r) → ∃ a t t', Rs[j]? = some (.ref a) ∧ h.IsList a #[.int (startOf P j : Nat) t, .str (S9 r) t']
  nodup : ∀ (i j : Nat) (a : Addr), Rs[i]? = some (.ref a) → Rs[j]? = some (.ref a) → i = j
  apart : ∀ a : Addr, Value.ref a ∈ Rs → a ∉ X ∧ B.get? a = none

theorem startOf_snoc {P : List Seg} {x : Seg} {j : Nat} (h : j < P.length) : startOf (P ++ [x]) j = startOf P j := by
  unfold startOf
  rw [List.take_append_of_le_length (Nat.le_of_lt h), List.getElem?_append_left h]
theorem startOf_end (P : List Seg) (x : Seg) : startOf (P ++ [x]) P.length = (mendP 0 P ++ x.1).length := by
  unfold startOf
  rw [List.take_left, List.getElem?_append_right (Nat.le_refl _), Nat.sub_self, List.length_append]; rfl
theorem isList_keeps {h h' : Heap} {a : Addr} {items : Array Value} (x : h.IsList a items) (e : ∀ o, h.get? a = some o → h'.get? a = some o) : h'.IsList a items := by
  obtain ⟨o, ho, r⟩ := x
  exact ⟨o, e _ ho, r⟩
theorem RunsAt.keeps {B : Heap} {X : List Addr} {h h' : Heap} {Rs : List Value} {P : List Seg} (R : RunsAt B X h Rs P) (e : ∀ a o, Value.ref a ∈ Rs → h.get? a = some o → h'.get? a = some o) : RunsAt B X h' Rs P :=
  ⟨R.len, fun j s r hj => by
    obtain ⟨a, t, t', h1, h2⟩ := R.at_ j s r hj
    exact ⟨a, t, t', h1, isList_keeps h2 fun o ho => e a o (List.mem_of_getElem? h1) ho⟩, R.nodup, R.apart⟩
theorem RunsAt.zero (B : Heap) (X : List Addr) (h : Heap) : RunsAt B X h [] [] := ⟨rfl, by simp, by simp, by simp⟩
theorem RunsAt.push {B : Heap} {X : List Addr} {h h' : Heap} {Rs : List Value} {P : List Seg} {a : Addr} {t t' : Tok} {s : List Nat} (R : RunsAt B X h Rs P) (keep : ∀ b o, Value.ref b ∈ Rs → h.get? b = some o → h'.get? b = some o)
    (ha : h'.IsList a #[.int ((mendP 0 P ++ s).length : Nat) t, .str (S9 []) t']) (hx : a ∉ X ∧ B.get? a = none) (hnew : Value.ref a ∉ Rs) : RunsAt B X h' (Rs ++ [.ref a]) (P ++ [(s, [])]) := by
  have R' := R.keeps keep
  refine ⟨by simp [R.len], fun j s' r' hj => ?_, fun i j b hi hj => ?_, fun b hb => ?_⟩
  · rcases Nat.lt_or_ge j P.length with h1 | h1
    · rw [List.getElem?_append_left h1] at hj
      obtain ⟨b, t1, t2, e1, e2⟩ := R'.at_ j s' r' hj
      refine ⟨b, t1, t2, ?_, ?_⟩
      · rw [List.getElem?_append_left (by rw [R.len]; exact h1)]; exact e1
      · rw [startOf_snoc h1]; exact e2
    · obtain ⟨hl, _⟩ := List.getElem?_eq_some_iff.mp hj
      have hj2 : j = P.length := by rw [List.length_append, List.length_singleton] at hl; omega
      subst hj2
      have e : (s', r') = (s, []) := by simpa using hj.symm
      cases e
      refine ⟨a, t, t', ?_, ?_⟩
      · rw [← R.len]; simp
      · rw [startOf_end]; exact ha
  · have key : ∀ (i : Nat) (b : Addr), (Rs ++ [Value.ref a])[i]? = some (.ref b) → (Rs[i]? = some (.ref b) ∧ i < Rs.length) ∨ (i = Rs.length ∧ b = a) := fun i b hi => by
      rcases Nat.lt_or_ge i Rs.length with h1 | h1
      · rw [List.getElem?_append_left h1] at hi; exact .inl ⟨hi, h1⟩
      · obtain ⟨hl, _⟩ := List.getElem?_eq_some_iff.mp hi
        have hi2 : i = Rs.length := by rw [List.length_append, List.length_singleton] at hl; omega
        subst hi2
        right
        refine ⟨rfl, ?_⟩
        have : (Value.ref a) = .ref b := by simpa using hi
        cases this; rfl
    rcases key i b hi with ⟨p1, p2⟩ | ⟨p1, p2⟩ <;> rcases key j b hj with ⟨q1, q2⟩ | ⟨q1, q2⟩
    · exact R.nodup i j b p1 q1
    · exact absurd (List.mem_of_getElem? p1) (by rw [q2]; exact hnew)
    · exact absurd (List.mem_of_getElem? q1) (by rw [p2]; exact hnew)
    · rw [p1, q1]
  · rcases List.mem_append.mp hb with q | q
    · exact R.apart b q
    · have : b = a := by have := List.mem_singleton.mp q; cases this; rfl
      subst this; exact hx
theorem RunsAt.set {B : Heap} {X : List Addr} {h h' : Heap} {Rs : List Value} {P : List Seg} {a : Addr} {t t' : Tok} {s r r' : List Nat} (R : RunsAt B X h Rs (P ++ [(s, r)])) (ha : Rs[P.length]? = some (.ref a)) (keep : ∀ b o, Value.ref b ∈ Rs → b ≠ a → h.get? b = some o → h'.get? b = some o)
    (ha' : h'.IsList a #[.int ((mendP 0 P ++ s).length : Nat) t, .str (S9 r') t']) : RunsAt B X h' Rs (P ++ [(s, r')]) := by
  refine ⟨by rw [R.len]; simp, fun j s1 r1 hj => ?_, R.nodup, R.apart⟩
  rcases Nat.lt_or_ge j P.length with h1 | h1
  · rw [List.getElem?_append_left h1] at hj
    obtain ⟨b, t1, t2, e1, e2⟩ := R.at_ j s1 r1 (by rw [List.getElem?_append_left h1]; exact hj)
    refine ⟨b, t1, t2, e1, ?_⟩
    rw [startOf_snoc h1] at e2 ⊢
    exact isList_keeps e2 fun o ho => keep b o (List.mem_of_getElem? e1) (fun q => by
      rw [q] at e1
      exact absurd (R.nodup _ _ _ e1 ha) (Nat.ne_of_lt h1)) ho
  · obtain ⟨hl, _⟩ := List.getElem?_eq_some_iff.mp hj
    have hj2 : j = P.length := by rw [List.length_append, List.length_singleton] at hl; omega
    subst hj2
    have e : (s1, r1) = (s, r') := by simpa using hj.symm
    cases e
    exact ⟨a, t, t', ha, by rw [startOf_end]; exact ha'⟩
end Mine
end
section
open PySem PySem.W PyProof.Rows
open PySem.Builtin PySem.Builtin.Str
namespace Mine

def elseB : List Stmt := ifElseOf (nth firstB 0)
theorem mendL_snoc (j : Nat) (r : List Nat) (c : Nat) : mendL j (r ++ [c]) = mendL j r ++ (mendS j c).cps.toList := by simp [mendL]
theorem mendP_set (P : List Seg) (s r : List Nat) (c : Nat) : mendP 0 (P ++ [(s, r ++ [c])]) = mendP 0 (P ++ [(s, r)]) ++ (mendS P.length c).cps.toList := by
  rw [mendP_snoc, mendP_snoc, Nat.zero_add]
  show mendP 0 P ++ s ++ mendL P.length (r ++ [c]) = mendP 0 P ++ s ++ mendL P.length r ++ _
  rw [mendL_snoc]; simp only [List.append_assoc]
def KpR (L D : Addr) (Rs : List Value) (h h' : Heap) : Prop := ∀ b o, h.get? b = some o → b ≠ L → b ≠ D → Value.ref b ∉ Rs → h'.get? b = some o
section
variable {prog : Program} {w : World} {A : Around} {E : Value → Shared → Prop} {s : Shared} {B h : Heap} {f L D : Addr} {g : Array GenState} {d : Drawn} {tk : Nat} {os : OsState} {cd : Value} {m : Str → Option Value}

theorem runs_last {Rs : List Value} {n k : Nat} {a : Addr} {p1 p2 p3 p4 : Pos} {Q : Value → Shared → Prop} (F : Fr B L s.heap m) (mr : m "runs" = some (.ref D)) (hD : s.heap.get? D = some (listObj Rs n)) (hn : Rs.length ≤ 1000) (hl : 0 < Rs.length) (ha : Rs[Rs.length - 1]? = some (.ref a))
    (hq : ∀ tk, Q (.ref a) { s with toks := tk }) :
    wpAny (model prog w) A (eval (.Subscript (.Name (Str.ofString "runs") p1) (.UnaryOp .USub (.Constant (.int 1) k p2) p3) p4) (envL L f cd)) Q E s := by
  refine Subscript_ (ldc F mr (wpAny_UnaryOp (wpAny_Constant_int (PyProof.Rows.neg_int ?_))))
  have hl' : s.heap.IsList D Rs.toArray := ⟨_, hD, rfl, _, rfl⟩
  refine tail_any (T := "list") ⟨_, hD, rfl⟩ slot_list_getitem.lookup (wpAny_getItem_list_neg hl' (by decide) (by rw [List.size_toArray]; omega) (by decide) (x := .ref a) ?_ (hq _)) (by with_unfolding_all rfl)
  rw [List.size_toArray]
  have : (-1 + ((Rs.length : Nat) : Int)).toNat = Rs.length - 1 := by omega
  rw [this, List.getElem?_toArray]; exact ha

set_option maxHeartbeats 1000000 in
theorem first_tail {P : List Seg} {sm r : List Nat} {c n : Nat} {X : List Addr} {Rs : List Value} {td ts : Tok} (C : Ctx B L) (hh : A.handled = none) (hroom : A.depth < recursionLimit) (F : Fr B L h m)
    (md : m "due" = some (.str (S9 (mendP 0 (P ++ [(sm, r)]))) td)) (mr : m "runs" = some (.ref D)) (ms : m "sign" = some (.str (one c) ts)) (hD : h.get? D = some (listObj Rs n)) (R : RunsAt B X h Rs (P ++ [(sm, r)]))
    (hX : L ∈ X ∧ D ∈ X) (hDB : B.get? D = none) (hP : P.length ≤ 100) (hr : r.length ≤ 100) (hm : (mendP 0 (P ++ [(sm, r)])).length ≤ 1000) (hc : c < 1114112) :
    wpAny (model prog w) A (execs (elseB.drop 1) (envL L f cd)) (fun fl s3 => fl = .next ∧ ∃ m3 h3 tk3, s3 = ⟨h3, g, d, tk3, os⟩ ∧ Fr B L h3 m3 ∧ KpR L D Rs h h3 ∧ h3.get? D = some (listObj Rs n) ∧
      RunsAt B X h3 Rs (P ++ [(sm, r ++ [c])]) ∧ (∃ t, m3 "due" = some (.str (S9 (mendP 0 (P ++ [(sm, r ++ [c])]))) t)) ∧ ∀ y : Str, y ≠ "due" → m3 y = m y) E ⟨h, g, d, tk, os⟩ := by
  have hsl : sizeLine = 16777216 := rfl
  obtain ⟨fM, hM, gM⟩ := C.mend
  obtain ⟨oM, docM, pmM, cdM, ctM, anM, hoM, hdM, _⟩ := id hM
  have hRl : Rs.length = P.length + 1 := by rw [R.len]; simp
  obtain ⟨a, t1, t2, ha, hla⟩ := R.at_ P.length sm r (by simp)
  rw [startOf_end] at hla
  have haR : Value.ref a ∈ Rs := List.mem_of_getElem? ha
  obtain ⟨haX, haB⟩ := R.apart a haR
  have aL : a ≠ L := fun q => haX (by rw [q]; exact hX.1)
  have aD : a ≠ D := fun q => haX (by rw [q]; exact hX.2)
  have ha' : Rs[Rs.length - 1]? = some (.ref a) := by rw [hRl, Nat.add_sub_cancel]; exact ha
  have z1 : (one c).length = 1 := rfl
  refine wpAny_execs_cons (wpAny_Assign_Subscript (wpAny_BinOp (Subscript_ (runs_last F mr hD (by omega) (by omega) ha' fun tk1 => ?_))))
  refine wpAny_Constant_int (sub_list_str (M := S9 r) (u := tk1) hla (by decide) (by decide) ⟨t2, rfl⟩ fun u => ?_)
  refine ldc F ms (PyProof.Rows.add_str (hsz := by rw [S9_len]; omega) fun k2 tk2 => ?_)
  refine runs_last F mr hD (by omega) (by omega) ha' fun tk3 => ?_
  refine wpAny_Constant_int (wpAny_setItem_list hla (by decide) (by decide) (by show (1 : Int) < ((2 : Nat) : Int); decide) fun h2 hl2 hs2 => ?_)
  dsimp only
  have K2 : Kp [a] h h2 := Kp.of_same hs2 (List.mem_singleton.mpr rfl)
  have F2 : Fr B L h2 m := K2.fr (fun p hp => by rw [List.mem_singleton.mp hp]; exact haB) F (K2.ns (by simpa using aL.symm) F.ns)
  have hD2 : h2.get? D = some (listObj Rs n) := K2 _ _ hD (by simpa using aD.symm)
  have e1 : (S9 r ++ one c) = S9 (r ++ [c]) := S9_app r [c]
  rw [e1] at hl2
  have R2 : RunsAt B X h2 Rs (P ++ [(sm, r ++ [c])]) := R.set ha (fun b o _ hb e => K2 b o e (by simpa using hb)) hl2
  have hmS := mendS_len P.length hc
  refine wpAny_execs_cons (wpAny_Assign_Name (wpAny_BinOp (ldc F2 md ?_)))
  refine Call_ (ld_global gM F2.keep (callWith_def hdM (spliced_more (ldc F2 ms (spliced_more (wpAny_BinOp ?_))))))
  refine Call_ (ld_global C.glen F2.keep (PyProof.Rows.callWith_builtin1 (spliced_more (ldc F2 mr (spliced_none (PyProof.Rows.len_list (items := Rs.toArray) ⟨_, hD2, rfl, _, rfl⟩ (by rw [List.size_toArray]; omega) ?_))))))
  refine wpAny_Constant_int (sub_int (spliced_none ⟨F2.keep _ _ hoM, wpAny_call ?_⟩))
  dsimp only
  have ej : ((Rs.toArray.size : Nat) : Int) - 1 = ((P.length : Nat) : Int) := by rw [List.size_toArray]; omega
  rw [ej]
  refine mend_call (c := c) (j := P.length) hM hroom F2.keep C.lim C.gord C.gstr hc fun h3 tk3 k3 K3 => ?_
  have F3 : Fr B L h3 m := ⟨F2.ns.keeps K3, fun b o e => K3 b o (F2.keep b o e), F2.above⟩
  refine PyProof.Rows.add_str (hsz := by rw [S9_len]; omega) fun k4 tk4 => ?_
  have e2 : S9 (mendP 0 (P ++ [(sm, r)])) ++ mendS P.length c = S9 (mendP 0 (P ++ [(sm, r ++ [c])])) := by
    rw [mendP_set, ← S9_app, S9_of]
  rw [e2]
  dsimp only
  refine storeC F3 (fun h4 F4 K4 => ?_)
  have dL : D ≠ L := not_frame F.ns hD (fun _ _ q => by cases q)
  have hD4 := K4 _ _ (K3 _ _ hD2) (by simpa using dL)
  have R4 : RunsAt B X h4 Rs (P ++ [(sm, r ++ [c])]) := R2.keeps fun b o hb e => K4 _ _ (K3 _ _ e) (fun q => (R.apart b hb).1 (by rw [List.mem_singleton.mp q]; exact hX.1))
  refine wpAny_execs_nil ⟨rfl, _, h4, _, rfl, F4, fun b o e n1 n2 n3 => ?_, hD4, R4, ⟨_, ue⟩, fun y hy => if_neg hy⟩
  exact K4 _ _ (K3 _ _ (K2 _ _ e (by simpa using fun q : b = a => n3 (by rw [q]; exact haR)))) (by simpa using n1)
end
end Mine
end
section
open PySem PySem.W PyProof.Rows
open PySem.Builtin PySem.Builtin.Str
namespace Mine

def pushB : List Stmt := ifBodyOf (nth elseB 0)
theorem due_len {U t : List Nat} {P : List Seg} (C : Cut U P t) (h : ∀ c ∈ U, c < 1114112) : (mendP 0 P ++ t).length ≤ 10 * U.length := by
  have e := C.eq
  have h1 := mendP_len 0 P fun c hc => h c (by rw [← e]; exact List.mem_append_left _ hc)
  rw [← e, List.length_append, List.length_append]; omega
theorem Cut.lens {U t : List Nat} {P : List Seg} (C : Cut U P t) : P.length ≤ U.length := by
  have e := C.eq
  have := flatP_len P fun x hx => (C.seg x hx).2.2
  rw [← e, List.length_append]; omega
theorem take_snoc {T : List Nat} {i c : Nat} (h : T[i]? = some c) : T.take (i + 1) = T.take i ++ [c] := by rw [List.take_add_one, h]; rfl
theorem one_S9 (c : Nat) : one c = S9 [c] := rfl
theorem item_S9 {T : List Nat} {k : Nat} {c : Nat} (h : T[k]? = some c) : Txt.item (S9 T) (k : Int) = one c := by
  obtain ⟨hk, e⟩ := List.getElem?_eq_some_iff.mp h
  have hl := S9_len T
  rw [eq_of_beq (item_closes (x := S9 T) (i := (k : Int)) ⟨by omega, by omega⟩)]
  have : (S9 T).cps.getD ((k : Int).toNat) 0 = c := by
    rw [Int.toNat_natCast, Array.getD_eq_getD_getElem?]
    show (T.toArray[k]?).getD 0 = c
    rw [List.getElem?_toArray, h]; rfl
  rw [this]

section
variable {prog : Program} {w : World} {A : Around} {E : Value → Shared → Prop} {s : Shared} {B h : Heap} {f L D : Addr} {g : Array GenState} {d : Drawn} {tk : Nat} {os : OsState} {cd : Value} {m : Str → Option Value}

theorem first_push {P : List Seg} {t : List Nat} {n : Nat} {X : List Addr} {Rs : List Value} {td : Tok} {Q : Flow → Shared → Prop} (C : Ctx B L) (F : Fr B L h m)
    (md : m "due" = some (.str (S9 (mendP 0 P ++ t)) td)) (mr : m "runs" = some (.ref D)) (hD : h.get? D = some (listObj Rs n)) (R : RunsAt B X h Rs P)
    (hX : L ∈ X ∧ D ∈ X) (live : ∀ b ∈ X, ∃ o, h.get? b = some o) (hDB : B.get? D = none) (hP : P.length ≤ 100) (hm : (mendP 0 P ++ t).length ≤ 1000)
    (hq : ∀ h3 tk3 a, Fr B L h3 m → h.get? a = none → KpR L D Rs h h3 → h3.get? D = some (listObj (Rs ++ [.ref a]) (n + 1)) → RunsAt B X h3 (Rs ++ [.ref a]) (P ++ [(t, [])]) → Q .next ⟨h3, g, d, tk3, os⟩) :
    wpAny (model prog w) A (execs pushB (envL L f cd)) Q E ⟨h, g, d, tk, os⟩ := by
  have hsl : sizeLine = 16777216 := rfl
  have hl9 := S9_len (mendP 0 P ++ t)
  refine wpAny_execs_cons (wpAny_Expr (MethodCall_ (ldc F mr (Calls.getMethod_list_append hD rfl rfl (callWith_method1 (spliced_more ?_))))))
  refine List_ (spliced_more (Call_ (ld_global C.glen F.keep (PyProof.Rows.callWith_builtin1 (spliced_more (ldc F md (spliced_none (PyProof.Rows.len_str (by omega) ?_))))))))
  refine spliced_more (Calls.Constant_str (spliced_none (wp_newList (by show 2 ≤ sizeLine; omega) (spliced_none ?_))))
  dsimp only
  generalize hlo : ({ cls := .type "list", data := .seq _ } : Obj) = lobj
  have hl1 := Heap.get?_push_size h (o := lobj) (by rw [← hlo]; rfl)
  have hnew : h.get? h.objs.size = none := Heap.get?_none_of_le (Nat.le_refl _)
  have F1 := F.push lobj
  have dL : D ≠ L := not_frame F.ns hD (fun _ _ q => by cases q)
  refine append_at (Heap.get?_push_of_some lobj hD) (fun h2 hs2 hD2 => ?_) (by rw [List.size_toArray, R.len]; omega)
  dsimp only
  have K2 : Kp [D] (h.push lobj) h2 := Kp.of_same hs2 (List.mem_singleton.mpr rfl)
  have F2 : Fr B L h2 m := K2.fr (fun p hp => by rw [List.mem_singleton.mp hp]; exact hDB) F1 (K2.ns (by simpa using dL.symm) F1.ns)
  have aX : h.objs.size ∉ X := fun q => by obtain ⟨o, ho⟩ := live _ q; rw [hnew] at ho; cases ho
  have aD : h.objs.size ≠ D := fun q => aX (by rw [q]; exact hX.2)
  have aR : Value.ref h.objs.size ∉ Rs := fun q => by
    obtain ⟨j, hj⟩ := List.getElem?_of_mem q
    have hjl : j < P.length := by rw [← R.len]; exact (List.getElem?_eq_some_iff.mp hj).1
    obtain ⟨b, t1, t2, e1, e2⟩ := R.at_ j P[j].1 P[j].2 (by rw [List.getElem?_eq_getElem hjl])
    rw [hj] at e1
    have : h.objs.size = b := by have := Option.some.inj e1; cases this; rfl
    obtain ⟨o, ho, _⟩ := e2
    rw [← this, hnew] at ho; cases ho
  have ha2 : ∃ t1 t2, h2.IsList h.objs.size #[.int ((mendP 0 P ++ t).length : Nat) t1, .str (S9 []) t2] := by
    have e0 : Str.ofString "" = S9 [] := by decide +kernel
    rw [hl9, e0] at hlo
    exact ⟨_, _, lobj, K2 _ _ hl1 (by simpa using aD), by rw [← hlo], 0, by rw [← hlo]⟩
  obtain ⟨u1, u2, ha2⟩ := ha2
  rw [List.push_toArray] at hD2
  refine wpAny_execs_nil (hq h2 _ _ F2 hnew (fun b o e n1 n2 _ => K2 _ _ (Heap.get?_push_of_some _ e) (by simpa using n2)) hD2 (R.push (fun b o hb e => K2 _ _ (Heap.get?_push_of_some _ e) (fun q => (R.apart b hb).1 (by rw [List.mem_singleton.mp q]; exact hX.2))) ha2 ⟨aX, fresh_B F hnew⟩ aR))

theorem else_turn {T t : List Nat} {P : List Seg} {i c n : Nat} {X : List Addr} {Rs : List Value} {td ts kt kk : Tok} (C : Ctx B L) (hh : A.handled = none) (hroom : A.depth < recursionLimit) (F : Fr B L h m)
    (hT : T[i]? = some c) (hTl : T.length ≤ 69) (hTlt : ∀ c ∈ T, c < 1114112) (h255 : ¬ c < 256) (cut : Cut (T.take i) P t) (mk : m "k" = some (.int (i : Int) kk)) (mt : m "text" = some (.str (S9 T) kt))
    (md : m "due" = some (.str (S9 (mendP 0 P ++ t)) td)) (mr : m "runs" = some (.ref D)) (ms : m "sign" = some (.str (one c) ts)) (hD : h.get? D = some (listObj Rs n)) (R : RunsAt B X h Rs P)
    (hX : L ∈ X ∧ D ∈ X) (live : ∀ b ∈ X, ∃ o, h.get? b = some o) (hDB : B.get? D = none) :
    wpAny (model prog w) A (execs elseB (envL L f cd)) (fun fl s3 => fl = .next ∧ ∃ m3 h3 tk3, s3 = ⟨h3, g, d, tk3, os⟩ ∧ Fr B L h3 m3 ∧ KpR L D Rs h h3 ∧ (∀ y : Str, y ≠ "due" → m3 y = m y) ∧
      ∃ P' t' Rs' n' td', Cut (T.take (i + 1)) P' t' ∧ m3 "due" = some (.str (S9 (mendP 0 P' ++ t')) td') ∧ h3.get? D = some (listObj Rs' n') ∧ RunsAt B X h3 Rs' P') E ⟨h, g, d, tk, os⟩ := by
  have hsl : sizeLine = 16777216 := rfl
  obtain ⟨hi, hTi⟩ := List.getElem?_eq_some_iff.mp hT
  have hc : c < 1114112 := hTlt c (List.mem_of_getElem? hT)
  have hU : ∀ c ∈ T.take i, c < 1114112 := fun c hc => hTlt c (List.mem_of_mem_take hc)
  have hUl : (T.take i).length = i := by rw [List.length_take]; omega
  have hdl := due_len cut hU
  have hPl := cut.lens
  rw [hUl] at hdl hPl
  have hsT := S9_len T
  have hts := take_snoc hT
  -- where a new run begins
  have pushed : (t ≠ [] ∨ P = []) → ∀ (tk' : Nat) {Q : Flow → Shared → Prop}, (∀ fl s3, (fl = .next ∧ ∃ m3 h3 tk3, s3 = ⟨h3, g, d, tk3, os⟩ ∧ Fr B L h3 m3 ∧ KpR L D Rs h h3 ∧ (∀ y : Str, y ≠ "due" → m3 y = m y) ∧
      ∃ P' t' Rs' n' td', Cut (T.take (i + 1)) P' t' ∧ m3 "due" = some (.str (S9 (mendP 0 P' ++ t')) td') ∧ h3.get? D = some (listObj Rs' n') ∧ RunsAt B X h3 Rs' P') → Q fl s3) →
      wpAny (model prog w) A (execs pushB (envL L f cd)) (fun fl s1 => fl = .next ∧ wpAny (model prog w) A (execs (elseB.drop 1) (envL L f cd)) Q E s1) E ⟨h, g, d, tk', os⟩ := fun ht tk' {Q} hQ => by
    refine first_push C F md mr hD R hX live hDB (by omega) (by omega) fun h3 tk3 a F3 hna K3 hD3 R3 => ⟨rfl, ?_⟩
    have em : mendP 0 (P ++ [(t, [])]) = mendP 0 P ++ t := by rw [mendP_snoc]; simp [mendL]
    refine wpAny_mono (first_tail (P := P) (sm := t) (r := []) C hh hroom F3 (by rw [em]; exact md) mr ms hD3 R3 hX hDB (by omega) (by simp) (by rw [em]; omega) hc) (fun fl s4 hs => ?_) fun _ _ q => q
    obtain ⟨rfl, m4, h4, tk4, rfl, F4, K4, hD4, R4, ⟨td4, md4⟩, hy4⟩ := hs
    refine hQ _ _ ⟨rfl, m4, h4, tk4, rfl, F4, fun b o e n1 n2 n3 => K4 b o (K3 b o e n1 n2 n3) n1 n2 (fun q => ?_), hy4, P ++ [(t, [c])], [], _, _, td4, ?_, ?_, hD4, R4⟩
    · rcases List.mem_append.mp q with q | q
      · exact n3 q
      · have : b = a := by have := List.mem_singleton.mp q; cases this; rfl
        rw [this, hna] at e; cases e
    · rw [hts]; exact cut.new h255 ht
    · rw [List.append_nil]; exact md4
  refine wpAny_execs_cons (wpAny_If (wpAny_isTrue_BoolOp (wpAny_allTrue_Or_cons (wpAny_isTrue_Compare1 (ldc F mk (wpAny_Constant_int (eq_int (wpAny_truthy_bool ?_))))))))
  by_cases hi0 : i = 0
  · rw [if_pos (by rw [hi0]; decide)]
    rw [if_pos rfl]
    have ht : t ≠ [] ∨ P = [] := by
      rw [hi0, List.take_zero] at cut
      exact .inr cut.none.1
    refine wpAny_mono (pushed ht _ fun fl s3 q => q) (fun fl s1 hs => ?_) fun _ _ q => q
    obtain ⟨rfl, hs⟩ := hs
    exact hs
  rw [if_neg (by simpa using (by omega : ¬ ((i : Int) = 0)))]
  obtain ⟨k, hk⟩ : ∃ k, i = k + 1 := ⟨i - 1, by omega⟩
  have hkT : T[k]? = some (T[k]'(by omega)) := List.getElem?_eq_getElem _
  have hck : T[k]'(by omega) < 1114112 := hTlt _ (List.getElem_mem _)
  refine wpAny_allTrue_Or_cons (wpAny_isTrue_Compare1 (Call_ (ld_global C.gord F.keep (PyProof.Rows.callWith_builtin1 (spliced_more ?_)))))
  refine Subscript_ (ldc F mt (wpAny_BinOp (ldc F mk (wpAny_Constant_int (sub_int ?_)))))
  have ek : (i : Int) - 1 = ((k : Nat) : Int) := by omega
  rw [ek]
  refine item_str (x := S9 T) (fitsSsize_of (N := 9223372036854775808) (by omega) (by omega) (Int.le_refl _)) (by omega) (by omega) (fun _ => ?_)
  rw [item_S9 hkT]
  refine spliced_none (PySem.P.ord_of_char ?_)
  refine wpAny_Constant_int (lt_int (wpAny_truthy_bool ?_))
  have cut2 : Cut (T.take k ++ [T[k]'(by omega)]) P t := by rw [← take_snoc hkT, ← hk]; exact cut
  by_cases hsm : T[k]'(by omega) < 256
  · rw [if_pos (by simpa using (by omega : ((T[k]'(by omega) : Nat) : Int) < 256))]
    rw [if_pos rfl]
    refine wpAny_mono (pushed (.inl (cut2.last.mp hsm)) _ fun fl s3 q => q) (fun fl s1 hs => ?_) fun _ _ q => q
    obtain ⟨rfl, hs⟩ := hs
    exact hs
  · rw [if_neg (by simpa using (by omega : ¬ ((T[k]'(by omega) : Nat) : Int) < 256))]
    refine wpAny_allTrue_Or_nil ?_
    rw [if_neg (by decide)]
    refine wpAny_execs_nil ?_
    dsimp only
    have ht : t = [] := by
      cases t with
      | nil => rfl
      | cons x l => exact absurd (cut2.last.mpr (by simp)) hsm
    subst ht
    rcases snoc_cases P with rfl | ⟨P0, ⟨sm, r⟩, rfl⟩
    · exfalso
      have := cut2.eq
      simp [flatP] at this
      rw [this] at hi; simp at hi
    · have hrl : r.length ≤ i := by
        have e := cut.eq
        rw [flatP_snoc] at e
        rw [← hUl, ← e]; simp only [List.length_append]; omega
      rw [List.length_append] at hPl
      rw [List.append_nil] at md hdl
      refine wpAny_mono (first_tail (P := P0) (sm := sm) (r := r) C hh hroom F md mr ms hD R hX hDB (by omega) (by omega) (by omega) hc) (fun fl s4 hs => ?_) fun _ _ q => q
      obtain ⟨rfl, m4, h4, tk4, rfl, F4, K4, hD4, R4, ⟨td4, md4⟩, hy4⟩ := hs
      refine ⟨rfl, m4, h4, tk4, rfl, F4, K4, hy4, P0 ++ [(sm, r ++ [c])], [], _, _, td4, ?_, ?_, hD4, R4⟩
      · rw [hts]; exact cut.same h255
      · rw [List.append_nil]; exact md4
theorem first_turn {T t : List Nat} {P : List Seg} {i c n : Nat} {X : List Addr} {Rs : List Value} {td ts kt kk : Tok} (C : Ctx B L) (hh : A.handled = none) (hroom : A.depth < recursionLimit) (F : Fr B L h m)
    (hT : T[i]? = some c) (hTl : T.length ≤ 69) (hTlt : ∀ c ∈ T, c < 1114112) (cut : Cut (T.take i) P t) (mk : m "k" = some (.int (i : Int) kk)) (mt : m "text" = some (.str (S9 T) kt))
    (md : m "due" = some (.str (S9 (mendP 0 P ++ t)) td)) (mr : m "runs" = some (.ref D)) (ms : m "sign" = some (.str (one c) ts)) (hD : h.get? D = some (listObj Rs n)) (R : RunsAt B X h Rs P)
    (hX : L ∈ X ∧ D ∈ X) (live : ∀ b ∈ X, ∃ o, h.get? b = some o) (hDB : B.get? D = none) :
    wpAny (model prog w) A (execs firstB (envL L f cd)) (fun fl s3 => fl = .next ∧ ∃ m3 h3 tk3, s3 = ⟨h3, g, d, tk3, os⟩ ∧ Fr B L h3 m3 ∧ KpR L D Rs h h3 ∧ (∀ y : Str, y ≠ "due" → m3 y = m y) ∧
      ∃ P' t' Rs' n' td', Cut (T.take (i + 1)) P' t' ∧ m3 "due" = some (.str (S9 (mendP 0 P' ++ t')) td') ∧ h3.get? D = some (listObj Rs' n') ∧ RunsAt B X h3 Rs' P') E ⟨h, g, d, tk, os⟩ := by
  have hsl : sizeLine = 16777216 := rfl
  obtain ⟨hi, hTi⟩ := List.getElem?_eq_some_iff.mp hT
  have hU : ∀ c ∈ T.take i, c < 1114112 := fun c hc => hTlt c (List.mem_of_mem_take hc)
  have hUl : (T.take i).length = i := by rw [List.length_take]; omega
  have hdl := due_len cut hU
  rw [hUl] at hdl
  have z1 : (one c).length = 1 := rfl
  refine wpAny_execs_cons (wpAny_If (wpAny_isTrue_Compare1 (ord_ev C F ms fun k1 tk1 => wpAny_Constant_int (lt_int (wpAny_truthy_bool ?_)))))
  by_cases h255 : c < 256
  · rw [if_pos (by simpa using (by omega : (c : Int) < 256))]
    refine wpAny_execs_cons (wpAny_Assign_Name (wpAny_BinOp (ldc F md (ldc F ms (PyProof.Rows.add_str (hsz := by rw [S9_len]; omega) fun k2 tk2 => ?_)))))
    dsimp only
    have e1 : S9 (mendP 0 P ++ t) ++ one c = S9 (mendP 0 P ++ (t ++ [c])) := by rw [one_S9, S9_app, List.append_assoc]
    rw [e1]
    refine storeC F (fun h2 F2 K2 => wpAny_execs_nil (wpAny_execs_nil ⟨rfl, _, h2, _, rfl, F2, fun b o e n1 n2 n3 => K2 _ _ e (by simpa using n1), fun y hy => if_neg hy, P, t ++ [c], Rs, n, _, ?_, ue, ?_, ?_⟩))
    · rw [take_snoc hT]; exact cut.small h255
    · exact K2 _ _ hD (by simpa using not_frame F.ns hD (fun _ _ q => by cases q))
    · exact R.keeps fun a o ha e => K2 _ _ e (fun q => (R.apart a ha).1 (by rw [List.mem_singleton.mp q]; exact hX.1))
  · rw [if_neg (by simpa using (by omega : ¬ (c : Int) < 256))]
    refine wpAny_mono (else_turn C hh hroom F hT hTl hTlt h255 cut mk mt md mr ms hD R hX live hDB) (fun fl s4 hs => ?_) fun _ _ q => q
    obtain ⟨rfl, hs⟩ := hs
    exact wpAny_execs_nil ⟨rfl, hs⟩
end
end Mine
end
section
open PySem PySem.W PyProof.Rows
open PySem.Builtin PySem.Builtin.Str
namespace Mine

def Three (h : Heap) (a : Addr) (x y z : Str) : Prop := ∃ t0 t1 t2 n, h.get? a = some (listObj [.str x t0, .str y t1, .str z t2] n)
theorem Three.keeps {h h' : Heap} {a : Addr} {x y z : Str} (T : Three h a x y z) (k : ∀ o, h.get? a = some o → h'.get? a = some o) : Three h' a x y z := by
  obtain ⟨t0, t1, t2, n, e⟩ := T
  exact ⟨t0, t1, t2, n, k _ e⟩
abbrev NamesAt (h : Heap) (a : Addr) : Prop := Three h a (Str.ofString "field-name's value") (Str.ofString "100% of x_y") (Str.ofString "iso-8859-1 BODY")
abbrev TitlesAt (h : Heap) (a : Addr) : Prop := Three h a (Str.ofString "Field-Name'S Value") (Str.ofString "100% Of X_Y") (Str.ofString "Iso-8859-1 Body")
theorem isCell_keeps {h h' : Heap} {a : Addr} {v : Option Value} (x : h.IsCell a v) (e : ∀ o, h.get? a = some o → h'.get? a = some o) : h'.IsCell a v := by
  obtain ⟨o, ho, hd⟩ := x
  exact ⟨o, e _ ho, hd⟩
theorem draws_str {prog : Program} {w : World} {A : Around} (hh : A.handled = none) (it : Addr) (x : Str) (t : Tok) :
    Draws prog w A it [it] x.cps.size (fun i v => ∃ c u, x.cps[i]? = some c ∧ v = .str ⟨#[c]⟩ u) (fun i h => h.IsStrIter it (strIterType x) x t i) := by
  unfold strIterType
  split
  · exact Draws.strAscii hh it x t
  · exact Draws.strWide hh it x t

section
variable {prog : Program} {w : World} {A : Around} {E : Value → Shared → Prop} {s : Shared} {B h : Heap} {f L l : Addr} {g : Array GenState} {d : Drawn} {tk : Nat} {os : OsState} {cd : Value} {m : Str → Option Value}

structure After (B : Heap) (L : Addr) (T : List Nat) (P : List Seg) (t : List Nat) (D Dn Ds : Addr) (Rs : List Value) (X : List Addr) (m : Str → Option Value) (h : Heap) (i : Nat) : Prop where
  cut : Cut (T.take i) P t
  due : ∃ td, m "due" = some (.str (S9 (mendP 0 P ++ t)) td)
  text : ∃ tt, m "text" = some (.str (S9 T) tt)
  runs : m "runs" = some (.ref D)
  names : m "names" = some (.ref Dn)
  shown : m "shown" = some (.ref Ds)
  lst : ∃ n, h.get? D = some (listObj Rs n)
  at_ : RunsAt B X h Rs P
  na : NamesAt h Dn
  ti : TitlesAt h Ds
  cell : ∃ v, h.IsCell (L + 1) v

theorem loop_pairs {T : List Nat} {D Dn Ds e it : Addr} {kt td : Tok} {R : Result → Shared → Prop} {p1 p2 pos : Pos} {k0 : Nat} (C : Ctx B L) (hh : A.handled = none) (hroom : A.depth < recursionLimit) (F : Fr B L h m) (hTl : T.length ≤ 69) (hTlt : ∀ c ∈ T, c < 1114112)
    (hst : IsEnum h e it 0 .none) (hit : h.IsStrIter it (strIterType (S9 T)) (S9 T) kt 0) (hei : e ≠ it) (heB : B.get? e = none ∧ B.get? it = none ∧ B.get? D = none)
    (hd : ∀ b, b = e ∨ b = it → b ≠ L ∧ b ≠ L + 1 ∧ b ≠ D ∧ b ≠ Dn ∧ b ≠ Ds) (hn : Dn ≠ L ∧ Ds ≠ L ∧ D ≠ L ∧ Dn ≠ D ∧ Ds ≠ D) (hDc : D ≠ L + 1)
    (Z : After B L T [] [] D Dn Ds [] [L, L + 1, D, Dn, Ds, e, it] m h 0)
    (hq : ∀ m' h' tk' P t Rs, Fr B L h' m' → After B L T P t D Dn Ds Rs [L, L + 1, D, Dn, Ds, e, it] m' h' T.length → R (.ok .next) ⟨h', g, d, tk', os⟩) :
    codeAny (model prog w) A (.forLoop (.Tuple [.Name (Str.ofString "k") p1, .Name (Str.ofString "sign") p2] k0 pos) (.ref e) firstB [] (envL L f cd)) R ⟨h, g, d, tk, os⟩ := by
  have hsz : (S9 T).cps.size = T.length := S9_len T
  have W := WalksT.enumerateD (draws_str (prog := prog) (w := w) (A := A.in1) hh it (S9 T) kt) e hei (by simpa using hei) (by simp)
  have de := hd e (.inl rfl)
  have di := hd it (.inr rfl)
  refine for_pairs (B := B) (L := L) W (by simp only [List.mem_cons, List.not_mem_nil, or_false]; rintro (q | q); exact de.1 q.symm; exact di.1 q.symm)
    (by intro b hb; simp only [List.mem_cons, List.not_mem_nil, or_false] at hb; rcases hb with rfl | rfl; exact heB.1; exact heB.2.1)
    (fun i h' st b hb => by
      obtain ⟨⟨old, he⟩, o, ho, _⟩ := st
      simp only [List.mem_cons, List.not_mem_nil, or_false] at hb
      rcases hb with rfl | rfl
      · exact ⟨_, he⟩
      · exact ⟨_, ho⟩)
    (fun i m' h' => ∃ P t Rs, After B L T P t D Dn Ds Rs [L, L + 1, D, Dn, Ds, e, it] m' h' i) ?_ F ⟨⟨_, hst⟩, hit⟩ ⟨[], [], [], Z⟩ ?_ ?_
  · rintro i m' h1 h2 ⟨P, t, Rs, Z⟩ K
    have kk : ∀ {b : Addr} {o : Obj}, b ≠ e → b ≠ it → h1.get? b = some o → h2.get? b = some o := fun n1 n2 e' => K _ _ e' (by simp [n1, n2])
    obtain ⟨n, hD⟩ := Z.lst
    obtain ⟨v, hc⟩ := Z.cell
    exact ⟨P, t, Rs, Z.cut, Z.due, Z.text, Z.runs, Z.names, Z.shown, ⟨n, kk de.2.2.1.symm di.2.2.1.symm hD⟩,
      Z.at_.keeps fun a o ha e' => kk (fun q => (Z.at_.apart a ha).1 (by simp [q])) (fun q => (Z.at_.apart a ha).1 (by simp [q])) e',
      Z.na.keeps fun o e' => kk de.2.2.2.1.symm di.2.2.2.1.symm e', Z.ti.keeps fun o e' => kk de.2.2.2.2.symm di.2.2.2.2.symm e', v, isCell_keeps hc fun o e' => kk de.2.1.symm di.2.1.symm e'⟩
  · rintro i m' h1 tk1 Tp vals E' hi ⟨P, t, Rs, Z⟩ ⟨ti, x, ⟨c, u, hc, rfl⟩, rfl⟩ hTp F1 live
    have hTc : T[i]? = some c := by
      have : T.toArray[i]? = some c := hc
      rw [List.getElem?_toArray] at this; exact this
    refine asg2c hh F1 hTp fun h2 tk2 F2 K2 => ?_
    have kk : ∀ {b : Addr} {o : Obj}, b ≠ L → h1.get? b = some o → h2.get? b = some o := fun n1 e' => K2 _ _ e' (by simpa using n1)
    obtain ⟨n, hD⟩ := Z.lst
    obtain ⟨v, hcl⟩ := Z.cell
    obtain ⟨td, hdue⟩ := Z.due
    obtain ⟨tt, htx⟩ := Z.text
    have na2 := Z.na.keeps (fun o e' => kk hn.1 e')
    have ti2 := Z.ti.keeps (fun o e' => kk hn.2.1 e')
    have cl2 := isCell_keeps hcl (fun o e' => kk (by simp) e')
    have R2 : RunsAt B _ h2 Rs P := Z.at_.keeps fun a o ha e' => kk (fun q => (Z.at_.apart a ha).1 (by simp [q])) e'
    have hD2 := kk hn.2.2.1 hD
    have live2 : ∀ b ∈ [L, L + 1, D, Dn, Ds, e, it], ∃ o, h2.get? b = some o := by
      intro b hb
      simp only [List.mem_cons, List.not_mem_nil, or_false] at hb
      rcases hb with rfl | rfl | rfl | rfl | rfl | rfl | rfl
      · obtain ⟨o, es, ep, ho, _⟩ := F2.ns; exact ⟨o, ho⟩
      · obtain ⟨o, ho, _⟩ := cl2; exact ⟨o, ho⟩
      · exact ⟨_, hD2⟩
      · obtain ⟨_, _, _, _, ho⟩ := na2; exact ⟨_, ho⟩
      · obtain ⟨_, _, _, _, ho⟩ := ti2; exact ⟨_, ho⟩
      · obtain ⟨o, ho⟩ := live b (by simp); exact ⟨o, kk de.1 ho⟩
      · obtain ⟨o, ho⟩ := live b (by simp); exact ⟨o, kk di.1 ho⟩
    refine wpAny_mono (first_turn (T := T) (i := i) (c := c) (D := D) C hh hroom F2 hTc hTl hTlt Z.cut (un ue) (un (un htx)) (un (un hdue)) (un (un Z.runs)) ue hD2 R2 (by simp) live2 heB.2.2) (fun fl s3 hs => ?_) fun _ _ q => q
    obtain ⟨rfl, m3, h3, tk3, rfl, F3, K3, hy3, P', t', Rs', n', td', cut', due', hD3, R3⟩ := hs
    have k3 : ∀ {b : Addr} {o : Obj}, b ∈ [L, L + 1, D, Dn, Ds, e, it] → b ≠ L → b ≠ D → h2.get? b = some o → h3.get? b = some o := fun hb n1 n2 e' => K3 _ _ e' n1 n2 fun q => (R2.apart _ q).1 hb
    refine ⟨rfl, m3, h3, tk3, rfl, F3, fun b hb o e' => ?_, P', t', Rs', cut', ⟨td', due'⟩, ⟨tt, (hy3 _ (by decide)).trans (un (un htx))⟩, (hy3 _ (by decide)).trans (un (un Z.runs)), (hy3 _ (by decide)).trans (un (un Z.names)), (hy3 _ (by decide)).trans (un (un Z.shown)),
      ⟨n', hD3⟩, R3, na2.keeps fun o e' => k3 (by simp) hn.1 hn.2.2.2.1 e', ti2.keeps fun o e' => k3 (by simp) hn.2.1 hn.2.2.2.2 e', v, isCell_keeps cl2 fun o e' => k3 (by simp) (by simp) hDc.symm e'⟩
    simp only [List.mem_cons, List.not_mem_nil, or_false] at hb
    rcases hb with rfl | rfl
    · exact k3 (by simp) de.1 de.2.2.1 (kk de.1 e')
    · exact k3 (by simp) di.1 di.2.2.1 (kk di.1 e')
  · rintro m' h1 tk1 ⟨P, t, Rs, Z⟩ F1
    rw [hsz] at Z
    exact hq _ _ _ _ _ _ F1 Z
end
end Mine
end
section
open PySem PySem.W PyProof.Rows
open PySem.Builtin PySem.Builtin.Str
namespace Mine

section
variable {prog : Program} {w : World} {A : Around} {E : Value → Shared → Prop} {s : Shared} {B h : Heap} {f L l : Addr} {g : Array GenState} {d : Drawn} {tk : Nat} {os : OsState} {cd : Value} {m : Str → Option Value}

theorem three_ev {x y z : Str} {p0 p1 p2 p3 : Pos} {k0 k1 k2 : Nat} {Q : Value → Shared → Prop} (F : Fr B L h m)
    (hq : ∀ h' tk', Fr B L h' m → h.StaysIn h' → h.get? h.objs.size = none → Three h' h.objs.size x y z → Q (.ref h.objs.size) ⟨h', g, d, tk', os⟩) :
    wpAny (model prog w) A (eval (.List [.Constant (.str x) k0 p0, .Constant (.str y) k1 p1, .Constant (.str z) k2 p2] p3) (envL L f cd)) Q E ⟨h, g, d, tk, os⟩ := by
  have hsl : sizeLine = 16777216 := rfl
  refine List_ (spliced_more (Calls.Constant_str (spliced_more (Calls.Constant_str (spliced_more (Calls.Constant_str (spliced_none (wp_newList (by show 3 ≤ sizeLine; omega) ?_))))))))
  exact hq _ _ (F.push _) (fun b o e => Heap.get?_push_of_some _ e) (Heap.get?_none_of_le (Nat.le_refl _)) ⟨_, _, _, _, Heap.get?_push_size _ rfl⟩

theorem law_first {Q : Flow → Shared → Prop} {vs : List Value} {ns : List Int} (C : Ctx B L) (hh : A.handled = none) (hroom : A.depth < recursionLimit)
    (F : Fr B L h m) (hm : m "script" = some (.ref l)) (hl : B.IsList l vs.toArray) (hI : IntsAre vs ns) (hn : ns.length ≤ 63) (hc : ∃ v, h.IsCell (L + 1) v)
    (hq : ∀ m' h' tk' P t D Dn Ds Rs X, Fr B L h' m' → After B L (text7 ns) P t D Dn Ds Rs X m' h' (text7 ns).length → wpAny (model prog w) A (execs (lawBody.drop 6) (envL L f cd)) Q E ⟨h', g, d, tk', os⟩) :
    wpAny (model prog w) A (execs lawBody (envL L f cd)) Q E ⟨h, g, d, tk, os⟩ := by
  have hsl : sizeLine = 16777216 := rfl
  obtain ⟨v0, hc⟩ := hc
  refine wpAny_execs_cons (wpAny_Assign_Name (three_ev F fun h1 tk1 F1 K1 n1 T1 => ?_))
  refine storeC F1 (fun h2 F2 K2 => ?_)
  refine wpAny_execs_cons (wpAny_Assign_Name (three_ev F2 fun h3 tk3 F3 K3 n3 T3 => ?_))
  refine storeC F3 (fun h4 F4 K4 => ?_)
  obtain ⟨Dn, hDn⟩ : ∃ Dn, Dn = h.objs.size := ⟨_, rfl⟩
  obtain ⟨Ds, hDs⟩ : ∃ Ds, Ds = h2.objs.size := ⟨_, rfl⟩
  rw [← hDn] at n1 T1 F4
  rw [← hDs] at n3 T3 F4
  have exT : ∀ {h : Heap} {a : Addr} {x y z : Str}, Three h a x y z → ∃ vs n, h.get? a = some (listObj vs n) := fun ⟨_, _, _, _, e⟩ => ⟨_, _, e⟩
  have nfr : ∀ {h : Heap} {m : Str → Option Value} {a : Addr} {x y z : Str}, Fr B L h m → Three h a x y z → a ≠ L := fun F T => by
    obtain ⟨vs, n, e⟩ := exT T; exact not_frame F.ns e (fun _ _ q => by cases q)
  have ncl : ∀ {h : Heap} {a : Addr} {x y z : Str} {v : Option Value}, h.IsCell (L + 1) v → Three h a x y z → a ≠ L + 1 := fun c T => by
    obtain ⟨vs, n, e⟩ := exT T; exact not_cell c ⟨_, e, rfl, _, rfl⟩
  have keep : ∀ {h1 h2 : Heap} {b : Addr} {o : Obj}, Kp [L] h1 h2 → b ≠ L → h1.get? b = some o → h2.get? b = some o := fun K n e => K _ _ e (by simpa using n)
  have dnL := nfr F1 T1
  have T1' := (T1.keeps fun o e => keep K2 dnL e)
  have dsn : Ds ≠ Dn := fun q => by obtain ⟨vs, n, e⟩ := exT T1'; rw [← q, n3] at e; cases e
  have dsL := nfr F3 T3
  have T14 : NamesAt h4 Dn := (T1'.keeps fun o e => K3 _ _ e).keeps fun o e => keep K4 dnL e
  have T34 : TitlesAt h4 Ds := T3.keeps fun o e => keep K4 dsL e
  have c4 : h4.IsCell (L + 1) v0 := isCell_keeps (isCell_keeps (isCell_keeps (isCell_keeps hc fun o e => K1 _ _ e) fun o e => keep K2 (by simp) e) fun o e => K3 _ _ e) fun o e => keep K4 (by simp) e
  clear T1 T1' T3 hc F1 F2 F3 K1 K2 K3 K4 n1 n3
  have hz : (textOf ns).length = ns.length := by show ((ns.map codeOf).toArray).size = _; simp
  have hz2 : (S9 tail7).length = 6 := rfl
  refine wpAny_execs_cons (wpAny_Assign_Name (wpAny_BinOp (join_ev C hh hroom F4 (un (un hm)) hl hI hn fun h5 tk5 k5 K5 => ?_)))
  refine Calls.Constant_str ?_
  rw [tail7_eq]
  refine PyProof.Rows.add_str (hsz := by omega) fun k6 tk6 => ?_
  rw [text7_eq]
  dsimp only
  have F5 : Fr B L h5 _ := ⟨F4.ns.keeps K5, fun b o e => K5 b o (F4.keep b o e), F4.above⟩
  refine storeC F5 (fun h6 F6 K6 => ?_)
  refine wpAny_execs_cons (wpAny_Assign_Name (Calls.Constant_str ?_))
  have e0 : Str.ofString "" = S9 [] := by decide +kernel
  rw [e0]
  refine storeC F6 (fun h7 F7 K7 => ?_)
  have T17 : NamesAt h7 Dn := ((T14.keeps fun o e => K5 _ _ e).keeps fun o e => keep K6 dnL e).keeps fun o e => keep K7 dnL e
  have T37 : TitlesAt h7 Ds := ((T34.keeps fun o e => K5 _ _ e).keeps fun o e => keep K6 dsL e).keeps fun o e => keep K7 dsL e
  have c7 : h7.IsCell (L + 1) v0 := isCell_keeps (isCell_keeps (isCell_keeps c4 fun o e => K5 _ _ e) fun o e => keep K6 (by simp) e) fun o e => keep K7 (by simp) e
  refine wpAny_execs_cons (wpAny_Assign_Name (List_ (spliced_none (wp_newList (by show 0 ≤ sizeLine; omega) ?_))))
  dsimp only
  have F8 := F7.push { cls := .type "list", data := .seq ([] : List Value).toArray }
  have o8 := Heap.get?_push_size h7 (o := { cls := .type "list", data := .seq ([] : List Value).toArray }) rfl
  have n8 : h7.get? h7.objs.size = none := Heap.get?_none_of_le (Nat.le_refl _)
  refine storeC F8 (fun h9 F9 K9 => ?_)
  obtain ⟨D, hDe⟩ : ∃ D, D = h7.objs.size := ⟨_, rfl⟩
  rw [← hDe] at o8 n8 F9
  have dL := not_frame F8.ns o8 (fun _ _ q => by cases q)
  have o9 := keep K9 dL o8
  have k79 : ∀ {b : Addr} {o : Obj}, b ≠ L → h7.get? b = some o → h9.get? b = some o := fun n e => keep K9 n (Heap.get?_push_of_some _ e)
  have T19 := T17.keeps fun o e => k79 dnL e
  have T39 := T37.keeps fun o e => k79 dsL e
  have c9 := isCell_keeps c7 fun o e => k79 (by simp) e
  have dnD : Dn ≠ D := fun q => by obtain ⟨vs, n, e⟩ := exT T17; rw [q, n8] at e; cases e
  have dsD : Ds ≠ D := fun q => by obtain ⟨vs, n, e⟩ := exT T37; rw [q, n8] at e; cases e
  have dcl := not_cell c9 ⟨_, o9, rfl, _, rfl⟩
  have bD := fresh_B F7 n8
  refine wpAny_execs_cons (wpAny_For (Call_ (ld_global C.genum F9.keep (PyProof.Rows.callWith_type1 (spliced_more (ldc F9 (un (un ue)) (spliced_none (call_enumerate_str fun h10 he hit hsz10 K10 => ?_))))))))
  refine wpAny_pyIter_enum he ?_
  dsimp only
  have F10 : Fr B L h10 _ := ⟨F9.ns.keeps K10, fun b o e => K10 b o (F9.keep b o e), F9.above⟩
  have nI : h9.get? h9.objs.size = none := Heap.get?_none_of_le (Nat.le_refl _)
  have nE : h9.get? (h9.objs.size + 1) = none := Heap.get?_none_of_le (Nat.le_succ _)
  have nn : ∀ {b : Addr} {o : Obj}, h9.get? b = some o → b ≠ h9.objs.size ∧ b ≠ h9.objs.size + 1 := fun e => ⟨fun q => (by rw [q, nI] at e; cases e), fun q => (by rw [q, nE] at e; cases e)⟩
  obtain ⟨oL, hoL⟩ : ∃ o, h9.get? L = some o := by obtain ⟨o, es, ep, ho, _⟩ := F9.ns; exact ⟨o, ho⟩
  obtain ⟨vn, nn1, hDn9⟩ := exT T19
  obtain ⟨vt, nn2, hDs9⟩ := exT T39
  obtain ⟨oc, hoc, hcd⟩ := id c9
  have hlen := text7_len ns
  refine loop_pairs (D := D) (Dn := Dn) (Ds := Ds) (T := text7 ns) (e := h9.objs.size + 1) (it := h9.objs.size) (td := 0) C hh hroom F10 (by omega) (text7_lt ns) he hit (Nat.succ_ne_self _) ⟨fresh_B F9 nE, fresh_B F9 nI, bD⟩
    ?_ ⟨dnL, dsL, dL, dnD, dsD⟩ dcl ?_ ?_
  · rintro b (rfl | rfl)
    · exact ⟨(nn hoL).2.symm, (nn hoc).2.symm, (nn o9).2.symm, (nn hDn9).2.symm, (nn hDs9).2.symm⟩
    · exact ⟨(nn hoL).1.symm, (nn hoc).1.symm, (nn o9).1.symm, (nn hDn9).1.symm, (nn hDs9).1.symm⟩
  · exact ⟨by rw [List.take_zero]; exact Cut.zero, ⟨_, un ue⟩, ⟨_, un (un ue)⟩, ue, un (un (un (un ue))), un (un (un ue)), ⟨0, K10 _ _ o9⟩, RunsAt.zero _ _ _, T19.keeps fun o e => K10 _ _ e, T39.keeps fun o e => K10 _ _ e, v0, isCell_keeps c9 fun o e => K10 _ _ e⟩
  · intro m' h' tk' P t Rs F' Z
    exact hq _ _ _ _ _ _ _ _ _ _ F' Z
end
end Mine
end
section
open PySem PySem.W PyProof.Rows
open PySem.Builtin PySem.Builtin.Str
namespace Mine

def rightOf : PySem.Expr → PySem.Expr
  | .BinOp _ _ r _ => r
  | _ => .Constant .none 0 ⟨0, 0, 0, 0⟩
def mendE : PySem.Expr := rightOf (leftOf (valueOf (nth turnB 5)))
theorem join_flat : ∀ l : List (List Nat), Str.join ⟨#[]⟩ (l.map fun x => (⟨x.toArray⟩ : Str)) = ⟨l.flatten.toArray⟩
  | [] => rfl
  | [x] => by
    show (⟨x.toArray⟩ : Str) = _
    simp
  | x :: y :: r => by
    have ih := join_flat (y :: r)
    have : Str.join ⟨#[]⟩ ((x :: y :: r).map fun x => (⟨x.toArray⟩ : Str)) = (⟨x.toArray⟩ : Str) ++ (⟨#[]⟩ : Str) ++ Str.join ⟨#[]⟩ ((y :: r).map fun x => (⟨x.toArray⟩ : Str)) := rfl
    rw [this, ih]
    apply str_ext
    rw [app_list, app_list]
    simp
theorem join_mend (j : Nat) (r : List Nat) : Txt.join (Str.ofString "") (r.map (mendS j)) = S9 (mendL j r) := by
  have e4 : Str.ofString "" = ⟨#[]⟩ := by decide +kernel
  have e1 : r.map (mendS j) = (r.map fun c => (mendS j c).cps.toList).map fun x => (⟨x.toArray⟩ : Str) := by
    rw [List.map_map]; exact List.map_congr_left fun c _ => (S9_of (mendS j c)).symm
  rw [e4, e1]
  show Builtin.Str.glued _ _ = _
  rw [StrLaws.glued_eq_join]
  exact join_flat _
theorem strs_mend (j : Nat) : ∀ (vs ys : List Value) (l : List Nat), Paired (fun (v y : Value) => ∃ (c : Nat) (t u : Tok), v = .str (one c) t ∧ y = .str (mendS j c) u) vs ys →
    (∀ (i : Nat) (v : Value), vs[i]? = some v → ∃ c u, l[i]? = some c ∧ v = .str (one c) u) → vs.length = l.length → StrsAre ys (l.map (mendS j))
  | _, _, [], .nil, _, _ => .nil
  | _, _, _ :: _, .nil, _, h => nomatch h
  | _, _, [], .cons _ _, _, h => nomatch h
  | v :: vs, y :: ys, c :: l, .cons hab hr, h, hl => by
    obtain ⟨c', t, u, e1, rfl⟩ := hab
    obtain ⟨c2, u2, e2, e3⟩ := h 0 v rfl
    have hc : c = c2 := by simpa using e2
    rw [e3] at e1
    have hc' : c2 = c' := by
      have := e1
      injection this with q _
      have := congrArg (fun x : Str => x.cps) q
      simpa using this
    subst hc; subst hc'
    exact .cons _ _ (strs_mend j vs ys l hr (fun i w hw => h (i + 1) w hw) (by simpa using hl))
theorem mends_sum (j : Nat) : ∀ r : List Nat, (∀ c ∈ r, c < 1114112) → ((r.map (mendS j)).map (·.length)).sum ≤ 10 * r.length
  | [], _ => Nat.le_refl _
  | c :: r, h => by
    have ih := mends_sum j r fun d hd => h d (.tail _ hd)
    have hm := mendS_len j (h c (.head _))
    simp only [List.map_cons, List.sum_cons, List.length_cons] at ih ⊢
    omega
section
variable {prog : Program} {w : World} {A : Around} {E : Value → Shared → Prop} {s : Shared} {B h : Heap} {f L l : Addr} {g : Array GenState} {d : Drawn} {tk : Nat} {os : OsState} {cd : Value} {m : Str → Option Value}

theorem tail_item {value slice : PySem.Expr} {o i : Value} {ops : List Value} {Q : Value → Shared → Prop} {s : Shared} (h : ItemOn (model prog w) A E o i Q s) (hs : subscripted slice false o i = operate ops (getItem o i)) :
    wpAny (model prog w) A (subscriptTail value slice o i) Q E s := by
  obtain ⟨T, id, hl, hT, hg⟩ := h
  exact tail_any hT hl hg hs

set_option maxHeartbeats 4000000 in
theorem mend_ev {r : List Nat} {j : Nat} {tr tj : Tok} {Q : Value → Shared → Prop} (C : Ctx B L) (hh : A.handled = none) (hroom : A.depth < recursionLimit) (F : Fr B L h m) (mr : m "run" = some (.str (S9 r) tr)) (hc : h.IsCell (L + 1) (some (.int (j : Int) tj)))
    (hrl : r.length ≤ 1000) (hr : ∀ c ∈ r, c < 1114112) (hq : ∀ h' tk t, Fr B L h' m → h.StaysIn h' → Q (.str (S9 (mendL j r)) t) ⟨h', g, d, tk, os⟩) :
    wpAny (model prog w) A (eval mendE (envL L f cd)) Q E ⟨h, g, d, tk, os⟩ := by
  have hsl : sizeLine = 16777216 := rfl
  obtain ⟨fM, hM, gM⟩ := C.mend
  obtain ⟨oM, docM, pmM, cdM, ctM, anM, hoM, hdM, _⟩ := id hM
  refine MethodCall_ (Calls.Constant_str (GM.join (callWith_method1 (spliced_more ?_))))
  refine wpAny_ListComp_free (fun _ => true) (fun (v y : Value) => ∃ (c : Nat) (t u : Tok), v = .str (one c) t ∧ y = .str (mendS j c) u) (cl := [(Str.ofString "turn", L + 1)]) rfl (by decide) rfl (by decide) rfl ?_
  refine ldc F mr (wpAny_pyIter_str fun o St W st0 => ?_)
  dsimp only
  have hsz : (S9 r).cps.size = r.length := S9_len r
  have F1 := F.push o
  have hfr : ∀ {b : Addr} {ob : Obj}, h.get? b = some ob → b ≠ h.objs.size := fun e => Nat.ne_of_lt (Heap.lt_size e)
  refine ⟨h.objs.size, _, _, _, _, _, rfl, W A hh, by omega, st0, ?_, ?_, ?_⟩
  · intro b hb
    rw [List.mem_singleton.mp hb]
    show h.objs.size < (h.push o).objs.size
    rw [Heap.size_push]; exact Nat.lt_succ_self _
  · refine ⟨fun C' i v s3 m3 E' hC hP hn hv hk ht => wpAny_pure ⟨rfl, s3.heap, s3.toks, rfl, fun _ _ e => e⟩, fun C' i v s3 m3 E' hC hP hp hn hv hk ht => ?_⟩
    obtain ⟨c, u, hcu, rfl⟩ := hP
    have hcr : c ∈ r := by
      have : r.toArray[i]? = some c := hcu
      rw [List.getElem?_toArray] at this
      exact List.mem_of_getElem? this
    have hk2 : ∀ b ob, h.get? b = some ob → s3.heap.get? b = some ob := fun b ob e => hk b ob (by simpa using hfr e) (Heap.get?_push_of_some _ e)
    have hc3 : s3.heap.IsCell (L + 1) (some (.int (j : Int) tj)) := isCell_keeps hc fun ob e => hk2 _ _ e
    have bs3 : B.StaysIn s3.heap := fun b ob e => hk2 _ _ (F.keep _ _ e)
    refine Call_ (ld_global gM bs3 (callWith_def hdM (spliced_more (wpAny_Name (wpAny_loadName_local rfl rfl hn hv (spliced_more ?_)) (by decide)))))
    refine wpAny_Name (wpAny_loadName_cell rfl rfl rfl hc3 (spliced_none ⟨bs3 _ _ hoM, wpAny_call ?_⟩)) (by decide)
    refine mend_call (c := c) (j := j) hM hroom bs3 C.lim C.gord C.gstr (hr c hcr) fun h' tk k K => ?_
    exact ⟨⟨c, _, _, rfl, rfl⟩, h', tk, rfl, K⟩
  · intro D h' tk ys vs hD hl hpl hlen hP hF hk
    have hF2 : Paired (fun (v y : Value) => ∃ (c : Nat) (t u : Tok), v = .str (one c) t ∧ y = .str (mendS j c) u) vs ys.toList := by
      rw [show vs.filter (fun _ => true) = vs from List.filter_eq_self.mpr fun _ _ => rfl] at hF; exact hF
    have hst := strs_mend j vs ys.toList r hF2 (fun i v hv => by
      obtain ⟨c, u, e1, e2⟩ := hP i v hv
      have : r.toArray[i]? = some c := e1
      rw [List.getElem?_toArray] at this
      exact ⟨c, u, this, e2⟩) (by rw [hlen]; exact hsz)
    have K' : h.StaysIn h' := fun b ob e => hk b ob (by simpa using hfr e) (Heap.get?_push_of_some _ e)
    refine spliced_none (join_listC hl hst (by decide +kernel) ?_ fun k2 tk2 => ?_)
    · have := mends_sum j r hr
      rw [List.length_map]; omega
    · rw [join_mend]
      exact hq _ _ _ ⟨F.ns.keeps K', fun b ob e => K' _ _ (F.keep _ _ e), F.above⟩ K'
end
end Mine
end
section
open PySem PySem.W PyProof.Rows
open PySem.Builtin PySem.Builtin.Str
namespace Mine

theorem slice_pre' (x : Str) (k : Nat) : Txt.slice x none (some (k : Int)) = pre x k := by
  by_cases hk : k ≤ x.length
  · exact slice_pre x hk
  · have e : Txt.slice x none (some (k : Int)) = Txt.slice x none (some (x.length : Int)) := by
      show StrLaws.sliceText x none (some (k : Int)) = StrLaws.sliceText x none (some (x.length : Int))
      unfold StrLaws.sliceText
      have e2 : strSliceIndices none (some (k : Int)) 1 x.length = strSliceIndices none (some (x.length : Int)) 1 x.length := by
        have a1 : ¬ ((k : Int) < 0) := by omega
        have a2 : ¬ ((x.length : Int) < 0) := by omega
        have a3 : min (k : Int) (x.length : Int) = (x.length : Int) := by omega
        simp [strSliceIndices, a1, a2, a3]
      rw [e2]
    rw [e, slice_pre x (Nat.le_refl _)]
    have hx : x.cps.toList.length = x.length := Array.length_toList
    unfold pre
    rw [List.take_of_length_le (by omega), List.take_of_length_le (by omega)]
theorem pre_len (x : Str) (k : Nat) : (pre x k).length ≤ k := by
  show ((x.cps.toList.take k).toArray).size ≤ k
  rw [List.size_toArray, List.length_take]; omega
theorem pick3 {x y z : Str} (j : Nat) (t1 t2 t3 : Tok) : ∃ u, ([Value.str x t1, Value.str y t2, Value.str z t3].toArray)[(((j % 3 : Nat)) : Int).toNat]? = some (.str (if j % 3 = 0 then x else if j % 3 = 1 then y else z) u) := by
  have h3 : j % 3 < 3 := Nat.mod_lt _ (by decide)
  generalize j % 3 = i at h3
  match i, h3 with
  | 0, _ => exact ⟨t1, rfl⟩
  | 1, _ => exact ⟨t2, rfl⟩
  | 2, _ => exact ⟨t3, rfl⟩
theorem words7_len (j : Nat) (r : List Nat) : (words7 j r).length ≤ 200 := by
  have z0 : (Str.ofString " (").length = 2 := by decide +kernel
  have z1 : (Str.ofString ") is not valid Latin-1. Use ").length = 28 := by decide +kernel
  have z2 : encodeS.length = 57 := by decide +kernel
  have h1 := pre_len (reprText (S9 r)) 20
  have h2 := name7_len j
  unfold words7
  simp only [Str.length_append]; omega
section
variable {T t sm r : List Nat} {P : List Seg} {j : Nat}
theorem flatP_mem {P : List Seg} {x : Seg} (h : x ∈ P) : ∀ c ∈ x.2, c ∈ flatP P := fun c hc => by
  refine List.mem_flatten.mpr ⟨x.1 ++ x.2, List.mem_map.mpr ⟨x, h, rfl⟩, List.mem_append_right _ hc⟩
theorem Cut.run_lt (C : Cut T P t) (hT : ∀ c ∈ T, c < 1114112) (h : P[j]? = some (sm, r)) : ∀ c ∈ r, c < 1114112 := fun c hc =>
  hT c (by rw [← C.eq]; exact List.mem_append_left _ (flatP_mem (List.mem_of_getElem? h) c hc))
theorem flatP_drop {P : List Seg} (j : Nat) : ∀ c ∈ flatP (P.drop j), c ∈ flatP P := fun c hc => by
  obtain ⟨l, hl, hcl⟩ := List.mem_flatten.mp hc
  obtain ⟨x, hx, rfl⟩ := List.mem_map.mp hl
  exact List.mem_flatten.mpr ⟨_, List.mem_map.mpr ⟨x, List.mem_of_mem_drop hx, rfl⟩, hcl⟩
theorem left_len (C : Cut T P t) (hT : ∀ c ∈ T, c < 1114112) (j : Nat) : (leftL P t j).length ≤ 10 * T.length := by
  have e : flatP P = flatP (P.take j) ++ flatP (P.drop j) := by rw [← flatP_append, List.take_append_drop]
  have h1 := mendP_len 0 (P.take j) fun c hc => hT c (by rw [← C.eq, e]; exact List.mem_append_left _ (List.mem_append_left _ hc))
  rw [← C.eq, e]
  unfold leftL
  simp only [List.length_append]; omega
theorem left_lt (C : Cut T P t) (hT : ∀ c ∈ T, c < 1114112) (j : Nat) : ∀ c ∈ leftL P t j, c < 1114112 := fun c hc => by
  rcases List.mem_append.mp hc with q | q
  · rcases List.mem_append.mp q with q | q
    · exact Nat.lt_trans (mendP_small 0 _ (fun x hx => (C.seg x (List.mem_of_mem_take hx)).1) c q) (by decide)
    · exact hT c (by rw [← C.eq]; exact List.mem_append_left _ (flatP_drop j c q))
  · exact Nat.lt_trans (C.tail c q) (by decide)
theorem left_fine (C : Cut T P t) (hT : ∀ c ∈ T, c < 1114112) (hl : T.length ≤ 69) (j : Nat) : Fine (S9 (leftL P t j)) := by
  have h1 := left_len C hT j
  refine ⟨by rw [S9_len]; omega, fun c hc => ?_⟩
  rw [S9_list] at hc
  have := left_lt C hT j c hc
  exact Nat.lt_trans this (by decide)
theorem left_lo (C : Cut T P t) (h : P[j]? = some (sm, r)) : loS (S9 (leftL P t j)) = startOf P j := by
  have hs := C.seg _ (List.mem_of_getElem? h)
  show lo (S9 _).cps.toList = _
  rw [S9_list, leftL_at h, lo3 (C.front h) hs.2.1 hs.2.2, start_at h]
theorem left_hi (C : Cut T P t) (h : P[j]? = some (sm, r)) : hiS (S9 (leftL P t j)) = startOf P j + r.length := by
  have hs := C.seg _ (List.mem_of_getElem? h)
  show hi (S9 _).cps.toList = _
  rw [S9_list, leftL_at h, hi3 (C.front h) hs.2.1 hs.2.2 C.rest, start_at h]
theorem left_words (C : Cut T P t) (h : P[j]? = some (sm, r)) : encWords (name7 j) (S9 (leftL P t j)) = words7 j r := by
  have hs := C.seg _ (List.mem_of_getElem? h)
  rw [leftL_at h, words7_eq j (C.front h) hs.2.1 hs.2.2 C.rest]
theorem left_bad (C : Cut T P t) (h : P[j]? = some (sm, r)) : loS (S9 (leftL P t j)) < (S9 (leftL P t j)).cps.toList.length := by
  have hs := C.seg _ (List.mem_of_getElem? h)
  have hp : 0 < r.length := List.length_pos_iff.mpr hs.2.2
  rw [left_lo C h, S9_list, leftL_at h, start_at h]
  simp only [List.length_append]; omega
theorem left_pre (C : Cut T P t) (h : P[j]? = some (sm, r)) : pre (S9 (leftL P t j)) (startOf P j) = S9 (mendP 0 (P.take j) ++ sm) := by
  apply str_ext
  rw [pre_list, S9_list, S9_list, leftL_at h, start_at h, List.append_assoc, List.take_left]
theorem left_suf (C : Cut T P t) (h : P[j]? = some (sm, r)) : suf (S9 (leftL P t j)) (startOf P j + r.length) = S9 (restL P t j) := by
  apply str_ext
  rw [suf_list, S9_list, S9_list, leftL_at h, start_at h, ← List.length_append, List.drop_left]
theorem run_len (C : Cut T P t) (h : P[j]? = some (sm, r)) : startOf P j + r.length ≤ (leftL P t j).length ∧ r.length ≤ T.length := by
  refine ⟨by rw [leftL_at h, start_at h]; simp only [List.length_append]; omega, ?_⟩
  rw [← C.eq]
  have hx := List.mem_of_getElem? h
  have : r.length ≤ (flatP P).length := by
    clear C
    obtain ⟨a, b, rfl⟩ := List.append_of_mem hx
    rw [flatP_append, flatP_cons]; simp only [List.length_append]; omega
  rw [List.length_append]; omega
end
end Mine
end
section
open PySem PySem.W PyProof.Rows
open PySem.Builtin PySem.Builtin.Str
namespace Mine

section
variable {prog : Program} {w : World} {A : Around} {E : Value → Shared → Prop} {s : Shared} {B h : Heap} {f L l Dn Ds : Addr} {g : Array GenState} {d : Drawn} {tk : Nat} {os : OsState} {cd : Value} {m : Str → Option Value}

set_option maxHeartbeats 8000000 in
theorem turn7 {T t sm r : List Nat} {P : List Seg} {j : Nat} {tl tj ts tr : Tok} (C : Ctx B L) (hfr : A.frames = some [envL L f cd]) (hh : A.handled = none) (hroom : A.depth < recursionLimit) (hu : A.units + 64 < cLine)
    (F : Fr B L h m) (cut : Cut T P t) (hT : ∀ c ∈ T, c < 1114112) (hTl : T.length ≤ 69) (hj : P[j]? = some (sm, r))
    (ml : m "left" = some (.str (S9 (leftL P t j)) tl)) (ms : m "start" = some (.int (startOf P j : Nat) ts)) (mr : m "run" = some (.str (S9 r) tr)) (hc : h.IsCell (L + 1) (some (.int (j : Int) tj)))
    (mn : m "names" = some (.ref Dn)) (mt : m "shown" = some (.ref Ds)) (na : NamesAt h Dn) (ti : TitlesAt h Ds) :
    wpAny (model prog w) A (execs turnB (envL L f cd)) (fun fl s3 => fl = .next ∧ ∃ m3 h3 tk3, s3 = ⟨h3, g, d, tk3, os⟩ ∧ Fr B L h3 m3 ∧ Kp [L] h h3 ∧ (∃ t', m3 "left" = some (.str (S9 (leftL P t (j + 1))) t')) ∧
      m3 "names" = m "names" ∧ m3 "shown" = m "shown" ∧ m3 "runs" = m "runs" ∧ m3 "due" = m "due") E ⟨h, g, d, tk, os⟩ := by
  have hsl : sizeLine = 16777216 := rfl
  have z0 : (Str.ofString " (").length = 2 := by decide +kernel
  have z1 : (Str.ofString ") is not valid Latin-1. Use ").length = 28 := by decide +kernel
  have z2 : encodeS.length = 57 := by decide +kernel
  have z2' : (Str.ofString ".encode('utf-8') if you want to send it encoded in UTF-8.").length = 57 := z2
  have hll := left_len cut hT j
  have hlf := left_fine cut hT hTl j
  have hrn := run_len cut hj
  have hrl := cut.run_lt hT hj
  have hls := S9_len (leftL P t j)
  have hrs := S9_len r
  have hj3 : j % 3 < 3 := Nat.mod_lt _ (by decide)
  have hnl := name7_len j
  have hp20 := pre_len (reprText (S9 r)) 20
  obtain ⟨n0, n1, n2, nn, hn⟩ := na
  obtain ⟨u0, u1, u2, un', ht⟩ := ti
  -- name
  refine wpAny_execs_cons (wpAny_Assign_Name (Subscript_ (ldc F mn (wpAny_BinOp (ldCell hc (wpAny_Constant_int (mod_int' (by decide) ?_)))))))
  dsimp only
  rw [mod3]
  refine sub_list_str (M := name7 j) ⟨_, hn, rfl, _, rfl⟩ (by omega) (by omega) (pick3 j _ _ _) fun v1 => ?_
  refine storeC F (fun h1 F1 K1 => ?_)
  have hc1 := isCell_keeps hc fun o e => K1 _ _ e (by simp)
  have ht1 := K1.get F.ns ht (fun _ _ q => by cases q)
  -- words
  refine wpAny_execs_cons (wpAny_Assign_Name (wpAny_BinOp (wpAny_BinOp (wpAny_BinOp (wpAny_BinOp (Subscript_ (ldc F1 (un mt) (wpAny_BinOp (ldCell hc1 (wpAny_Constant_int (mod_int' (by decide) ?_))))))))))) 
  dsimp only
  rw [mod3]
  refine sub_list_str (M := title7 j) ⟨_, ht1, rfl, _, rfl⟩ (by omega) (by omega) (pick3 j _ _ _) fun v2 => ?_
  refine Calls.Constant_str (PyProof.Rows.add_str (hsz := by omega) fun k3 tk3 => ?_)
  refine Subscript_ (Call_ (ld_global C.grepr F1.keep (PyProof.Rows.callWith_builtin1 (spliced_more (ldc F1 (un mr) (spliced_none (PySem.P.repr_of_str ?_ ?_)))))))
  rotate_left
  · have := StrLaws.reprText_len (S9 r) (fun c hc => by rw [S9_list] at hc; exact Nat.lt_trans (hrl c hc) (by decide))
    omega
  refine wpAny_Slice (evalPart_none_step (evalPart_some_step (wpAny_Constant_int (evalPart_none_step ?_))))
  refine tail_item ?_ (by with_unfolding_all rfl)
  refine SBH.sliceItem_ns (P := fun h' => h1.StaysIn h') (fun h' ob k b o e => Heap.get?_push_of_some _ (k b o e)) (fun _ _ e => e) (fun h2 t2 k2 K2 => ?_) ?_
  rotate_left
  · have := StrLaws.reprText_len (S9 r) (fun c hc => by rw [S9_list] at hc; exact Nat.lt_trans (hrl c hc) (by decide))
    omega
  rw [show ((20 : Int)) = ((20 : Nat) : Int) from rfl, slice_pre']
  have F2 : Fr B L h2 _ := ⟨F1.ns.keeps K2, fun b o e => K2 b o (F1.keep b o e), F1.above⟩
  refine PyProof.Rows.add_str (hsz := by simp only [Str.length_append]; omega) fun k4 tk4 => ?_
  refine Calls.Constant_str (PyProof.Rows.add_str (hsz := by simp only [Str.length_append]; omega) fun k5 tk5 => ?_)
  refine ldc F2 ue (PyProof.Rows.add_str (hsz := by simp only [Str.length_append]; omega) fun k6 tk6 => ?_)
  refine storeC F2 (fun h3 F3 K3 => ?_)
  refine wpAny_execs_cons (wpAny_Assign_Name (wpAny_BinOp (ldc F3 ue (Calls.Constant_str (PyProof.Rows.add_str (hsz := by simp only [Str.length_append]; omega) fun k7 tk7 => ?_)))))
  dsimp only
  refine storeC F3 (fun h4 F4 K4 => ?_)
  have K04 : Kp [L] h h4 := ((K1.trans (.of_stays K2)).trans K3).trans K4
  -- row
  refine wpAny_execs_cons (wpAny_Assign_Name (Tuple_ (spliced_more (Calls.Constant_str (spliced_more (ldc F4 (un (un (un ml))) (spliced_more (ldc F4 (un (un (un ms))) (spliced_more (wpAny_BinOp (ldc F4 (un (un (un ms))) ?_)))))))))))
  refine Call_ (ld_global C.glen F4.keep (PyProof.Rows.callWith_builtin1 (spliced_more (ldc F4 (un (un (un mr))) (spliced_none (PyProof.Rows.len_str (by omega) ?_))))))
  refine add_int (spliced_more (ldc F4 ue (spliced_none (wpAny_newTuple ?_ (by show 5 ≤ sizeLine; omega)))))
  dsimp only
  generalize hro : ({ cls := .type "tuple", data := .seq _ } : Obj) = robj
  have hr4 := Heap.get?_push_size h4 (o := robj) (by rw [← hro]; rfl)
  obtain ⟨b1, b2, b3, b4, b5, hrob⟩ : ∃ b1 b2 b3 b4 b5, robj = { cls := .type "tuple", data := .seq #[.str latinS b1, .str (S9 (leftL P t j)) b2, .int (loS (S9 (leftL P t j))) b3, .int (hiS (S9 (leftL P t j))) b4, .str (words7 j r) b5] } := by
    rw [← hro, left_lo cut hj, left_hi cut hj, hrs]
    rw [show (((startOf P j + r.length : Nat)) : Int) = (startOf P j : Int) + (r.length : Int) from Int.natCast_add _ _]
    exact ⟨_, _, _, _, _, rfl⟩
  rw [hrob] at hr4
  refine storeC (F4.push robj) (fun h5 F5 K5 => ?_)
  have hr5 := K5.get (F4.push robj).ns (by rw [hrob]; exact hr4) (fun _ _ q => by cases q)
  have K45 : Kp [L] h4 h5 := (Kp.of_stays fun b o e => Heap.get?_push_of_some _ e).trans K5
  have K05 := K04.trans K45
  clear hro hr4
  obtain ⟨fe, hfe, ge⟩ := C.fn
  obtain ⟨oE, oT, T0, kV, doc, pm, cdv, ct, an, kt0, hoE, hdE, _⟩ := id hfe
  generalize hm5 : (fun z => if z = Str.ofString "row" then some (Value.ref h4.objs.size) else _ : Str → Option Value) = m5 at F5
  have g5 : ∀ y : Str, y ≠ "row" → y ≠ "words" → y ≠ "name" → m5 y = m y := fun y n1 n2 n3 => by rw [← hm5]; exact (if_neg n1).trans ((if_neg n2).trans ((if_neg n2).trans (if_neg n3)))
  have gr : m5 "row" = some (.ref h4.objs.size) := by rw [← hm5]; exact ue
  have gnm : m5 "name" = some (.str (name7 j) v1) := by rw [← hm5]; exact un (un (un ue))
  clear hm5
  have gl := (g5 "left" (by decide) (by decide) (by decide)).trans ml
  have gst := (g5 "start" (by decide) (by decide) (by decide)).trans ms
  have grn := (g5 "run" (by decide) (by decide) (by decide)).trans mr
  -- the try
  refine wpAny_execs_cons (wpAny_Try_except ?_)
  refine wpAny_execs_cons (wpAny_Expr (Call_ (ld_global ge F5.keep (callWith_def hdE (spliced_more (ldc F5 gl (spliced_more (ldc F5 gnm (spliced_none ⟨F5.keep _ _ hoE, wpAny_call ?_⟩)))))))))
  have hbadx := left_bad cut hj
  refine call_enc2 C hfe hfr hh hroom F5 hlf (by omega) (fun hlo => absurd hlo (Nat.ne_of_lt hbadx)) ?_
  intro hlo h7 e te Te cx t1 t2' t3 t4 t5 tk7 F7 K7 ne nT ue7 hTe tb7 tu7
  rw [left_words cut hj] at ue7 tu7
  have hr7 := K7.get F5.ns hr5 (fun _ _ q => by cases q)
  have hre : h4.objs.size ≠ e := fun q => by rw [q, ne] at hr5; cases hr5
  have hrT : h4.objs.size ≠ Te := fun q => by rw [q, nT] at hr5; cases hr5
  have hrL : h4.objs.size ≠ L := not_frame F5.ns hr5 (fun _ _ q => by cases q)
  have hte : te ≠ e := fun q => by rw [q, ue7] at tu7; have := congrArg Obj.data (Option.some.inj tu7); cases this
  have htT : te ≠ Te := fun q => by
    obtain ⟨oT, ts, a1, a2, _⟩ := tb7
    rw [← q, tu7] at a1; cases a1; cases a2
  have htL : te ≠ L := not_frame F7.ns tu7 (fun _ _ q => by cases q)
  refine caughtC (Y := "UnicodeEncodeError") (P := fun fl m' => fl = .next ∧ ∀ y : Str, y ≠ "told" → m' y = if y = Str.ofString "err" then some (.ref e) else m5 y) hfr C.bl F7 C.gx (fresh_B F5 ne) (fresh_B F5 nT) ue7 rfl tb7 hTe ue_raise.isExc ue_notTuple ue_new.sub
    (fun h' tk' T' E' F' K' ex' => ?_) (fun fl h8 m8 v8 tk8 hP F8 K8 => ?_)
  · exact check_ok (e := e) (t := te) (r := h4.objs.size) C hu F' ue (un gr) ex' (K' _ _ tu7 (by simp [htL, hte, htT])) (K' _ _ hr7 (by simp [hrL, hre, hrT]))
  obtain ⟨rfl, hy8⟩ := hP
  have K58 : Kp [L] h5 h8 := K7.fresh K8 (by intro p hp; simp at hp; rcases hp with rfl | rfl | rfl <;> simp [ne, nT])
  have K08 : Kp [L] h h8 := K05.trans K58
  generalize hm9 : (fun y => if y = Str.ofString "err" then v8 else m8 y) = m9 at F8
  have g9 : ∀ y : Str, y ≠ "err" → y ≠ "told" → y ≠ "row" → y ≠ "words" → y ≠ "name" → m9 y = m y := fun y n1 n2 n3 n4 n5 => by rw [← hm9]; exact (if_neg n1).trans ((hy8 y n2).trans ((if_neg n1).trans (g5 y n3 n4 n5)))
  clear hm9
  dsimp only
  have gl9 := (g9 "left" (by decide) (by decide) (by decide) (by decide) (by decide)).trans ml
  have gst9 := (g9 "start" (by decide) (by decide) (by decide) (by decide) (by decide)).trans ms
  have grn9 := (g9 "run" (by decide) (by decide) (by decide) (by decide) (by decide)).trans mr
  have hc8 := isCell_keeps hc fun o e => K08 _ _ e (by simp)
  -- left
  refine wpAny_execs_cons (wpAny_Assign_Name (wpAny_BinOp (wpAny_BinOp ?_)))
  refine Subscript_Slice (ldc F8 gl9 (wpAny_Slice (evalPart_none_step (evalPart_some_step (ldc F8 gst9 (evalPart_none_step ?_))))))
  refine SBH.sliceItem_ns (P := fun h' => h8.StaysIn h') (fun h' ob k b o e => Heap.get?_push_of_some _ (k b o e)) (fun _ _ e => e) (fun h10 t10 k10 K10 => ?_) (by omega)
  rw [slice_pre _ (by omega), left_pre cut hj]
  have F10 : Fr B L h10 m9 := ⟨F8.ns.keeps K10, fun b o e => K10 b o (F8.keep b o e), F8.above⟩
  refine mend_ev (r := r) (j := j) C hh hroom F10 grn9 (isCell_keeps hc8 fun o e => K10 _ _ e) (by omega) hrl fun h11 tk11 t11 F11 K11 => ?_
  have hml := mendL_len j r hrl
  have hpl : (mendP 0 (P.take j) ++ sm).length ≤ 690 := by rw [← start_at hj]; omega
  refine PyProof.Rows.add_str (hsz := by rw [S9_len, S9_len]; omega) fun k12 tk12 => ?_
  rw [S9_app]
  refine Subscript_Slice (ldc F11 gl9 (wpAny_Slice (evalPart_some_step (wpAny_BinOp (ldc F11 gst9 ?_)))))
  refine Call_ (ld_global C.glen F11.keep (PyProof.Rows.callWith_builtin1 (spliced_more (ldc F11 grn9 (spliced_none (PyProof.Rows.len_str (by omega) ?_))))))
  refine add_int (evalPart_none_step (evalPart_none_step ?_))
  dsimp only
  rw [hrs, show (startOf P j : Int) + (r.length : Int) = ((startOf P j + r.length : Nat) : Int) from (Int.natCast_add _ _).symm]
  refine SBH.sliceItem_sn (s := ⟨h11, g, d, _, os⟩) (P := fun h' => h11.StaysIn h') (fun h' ob k b o e => Heap.get?_push_of_some _ (k b o e)) (fun _ _ e => e) (fun h13 t13 k13 K13 => ?_) (by omega)
  rw [slice_suf _ (by omega), left_suf cut hj]
  have F13 : Fr B L h13 m9 := ⟨F11.ns.keeps K13, fun b o e => K13 b o (F11.keep b o e), F11.above⟩
  have hrest : (restL P t j).length ≤ 690 := by
    have := leftL_at (t := t) hj
    have := congrArg List.length this
    simp only [List.length_append] at this; omega
  refine PyProof.Rows.add_str (hsz := by rw [S9_len, S9_len, List.length_append]; omega) fun k14 tk14 => ?_
  rw [S9_app, ← leftL_next hj]
  dsimp only
  refine storeC F13 (fun h15 F15 K15 => ?_)
  have K015 : Kp [L] h h15 := (((K08.trans (.of_stays K10)).trans (.of_stays K11)).trans (.of_stays K13)).trans K15
  have gg : ∀ y : Str, y ≠ "left" → y ≠ "err" → y ≠ "told" → y ≠ "row" → y ≠ "words" → y ≠ "name" → (if y = Str.ofString "left" then some (Value.str (S9 (leftL P t (j + 1))) k14) else m9 y) = m y := fun y n0 n1 n2 n3 n4 n5 => (if_neg n0).trans (g9 y n1 n2 n3 n4 n5)
  exact wpAny_execs_nil ⟨rfl, _, h15, _, rfl, F15, K015, ⟨_, ue⟩, gg _ (by decide) (by decide) (by decide) (by decide) (by decide) (by decide), gg _ (by decide) (by decide) (by decide) (by decide) (by decide) (by decide), gg _ (by decide) (by decide) (by decide) (by decide) (by decide) (by decide), gg _ (by decide) (by decide) (by decide) (by decide) (by decide) (by decide)⟩
end
end Mine
end
section
open PySem PySem.W PyProof.Rows
open PySem.Builtin PySem.Builtin.Str
namespace Mine

theorem ints_ord : ∀ (vs ys : List Value) (l : List Nat), Paired (fun (v y : Value) => ∃ (c : Nat) (t u : Tok), v = .str (one c) t ∧ y = .int (c : Int) u) vs ys →
    (∀ (i : Nat) (v : Value), vs[i]? = some v → ∃ c u, l[i]? = some c ∧ v = .str (one c) u) → vs.length = l.length → IntsAre ys (l.map fun (c : Nat) => (c : Int))
  | _, _, [], .nil, _, _ => .nil
  | _, _, _ :: _, .nil, _, h => nomatch h
  | _, _, [], .cons _ _, _, h => nomatch h
  | v :: vs, y :: ys, c :: l, .cons hab hr, h, hl => by
    obtain ⟨c', t, u, e1, rfl⟩ := hab
    obtain ⟨c2, u2, e2, e3⟩ := h 0 v rfl
    have hc : c = c2 := by simpa using e2
    rw [e3] at e1
    have hc' : c2 = c' := by
      have := e1
      injection this with q _
      have := congrArg (fun x : Str => x.cps) q
      simpa using this
    subst hc; subst hc'
    exact .cons _ _ (ints_ord vs ys l hr (fun i w hw => h (i + 1) w hw) (by simpa using hl))
theorem S9_octs (l : List Nat) : octs (S9 l) = byteArr (l.map fun (c : Nat) => (c : Int)) := by
  unfold octs byteArr
  rw [S9_list, List.map_map]
  congr 1

section
variable {prog : Program} {w : World} {A : Around} {E : Value → Shared → Prop} {s : Shared} {B h : Heap} {f L : Addr} {g : Array GenState} {d : Drawn} {tk : Nat} {os : OsState} {cd : Value} {m : Str → Option Value}

set_option maxHeartbeats 4000000 in
theorem law_end {l : List Nat} {t1 t2 : Tok} (C : Ctx B L) (hfr : A.frames = some [envL L f cd]) (hh : A.handled = none) (hroom : A.depth < recursionLimit) (F : Fr B L h m) (ml : m "left" = some (.str (S9 l) t1)) (md : m "due" = some (.str (S9 l) t2))
    (hsm : ∀ c ∈ l, c < 256) (hfine : Fine (S9 l)) :
    wpAny (model prog w) A (execs (lawBody.drop 8) (envL L f cd)) (fun fl s3 => fl = .ret (.bool true) ∧ ∃ h3 tk3, s3 = ⟨h3, g, d, tk3, os⟩ ∧ B.StaysIn h3) E ⟨h, g, d, tk, os⟩ := by
  have hsl : sizeLine = 16777216 := rfl
  have hll : l.length ≤ 100000 := by have := hfine.1; rw [S9_len] at this; exact this
  obtain ⟨fe, hfe, ge⟩ := C.fn
  obtain ⟨oE, oT, T0, kV, doc, pm, cdv, ct, an, kt0, hoE, hdE, _⟩ := id hfe
  have hlo : loS (S9 l) = (S9 l).cps.toList.length := by
    show lo _ = _
    rw [S9_list]; exact lo_small hsm
  refine wpAny_execs_cons (wpAny_Assign_Name (Call_ (ld_global ge F.keep (callWith_def hdE (spliced_more (ldc F ml (spliced_none ⟨F.keep _ _ hoE, wpAny_call ?_⟩)))))))
  refine call_enc1 C hfe hfr hh hroom F hfine (fun _ h2 tk2 kb F2 K2 => ?_) (fun hb => absurd hb (by rw [hlo]; exact Nat.lt_irrefl _))
  refine storeC F2 (fun h3 F3 K3 => ?_)
  refine wpAny_execs_cons (wpAny_Return_some (BoolOp_and (wpAny_Compare1 (type_ev C F3 ue (PySem.W.typeIs_bytes _ _ _) (by decide) (ld_global C.gbytes F3.keep (is_type_same (wpAny_truthy_bool ?_)))))))
  rw [if_pos rfl]
  refine BoolOp_one (wpAny_Compare1 (ldc F3 ue ?_))
  refine Call_ (ld_global C.gbytes F3.keep (PyProof.Rows.callWith_type1 (spliced_more ?_)))
  refine wpAny_ListComp_free (fun _ => true) (fun (v y : Value) => ∃ (c : Nat) (t u : Tok), v = .str (one c) t ∧ y = .int (c : Int) u) (cl := []) rfl (by decide) rfl (by decide) rfl ?_
  refine ldc F3 (un md) (wpAny_pyIter_str fun o St W st0 => ?_)
  dsimp only
  have hsz : (S9 l).cps.size = l.length := S9_len l
  have hfr3 : ∀ {b : Addr} {ob : Obj}, h3.get? b = some ob → b ≠ h3.objs.size := fun e => Nat.ne_of_lt (Heap.lt_size e)
  refine ⟨h3.objs.size, _, _, _, _, _, rfl, W A hh, by omega, st0, ?_, ?_, ?_⟩
  · intro b hb
    rw [List.mem_singleton.mp hb]
    show h3.objs.size < (h3.push o).objs.size
    rw [Heap.size_push]; exact Nat.lt_succ_self _
  · refine ⟨fun C' i v s3 m3 E' hC hP hn hv hk ht => wpAny_pure ⟨rfl, s3.heap, s3.toks, rfl, fun _ _ e => e⟩, fun C' i v s4 m3 E' hC hP hp hn hv hk ht => ?_⟩
    obtain ⟨c, u, hcu, rfl⟩ := hP
    have bs4 : B.StaysIn s4.heap := fun b ob e => hk b ob (by simpa using hfr3 (F3.keep _ _ e)) (Heap.get?_push_of_some _ (F3.keep _ _ e))
    refine Call_ (ld_global C.gord bs4 (PyProof.Rows.callWith_builtin1 (spliced_more (wpAny_Name (wpAny_loadName_local rfl rfl hn hv (spliced_none (PySem.P.ord_of_char ?_))) (by decide)))))
    exact ⟨⟨c, _, _, rfl, rfl⟩, s4.heap, _, rfl, fun _ _ e => e⟩
  · intro D h' tk ys vs hD hl hpl hlen hP hF hk
    have hF2 : Paired (fun (v y : Value) => ∃ (c : Nat) (t u : Tok), v = .str (one c) t ∧ y = .int (c : Int) u) vs ys.toList := by
      rw [show vs.filter (fun _ => true) = vs from List.filter_eq_self.mpr fun _ _ => rfl] at hF; exact hF
    have hst := ints_ord vs ys.toList l hF2 (fun i v hv => by
      obtain ⟨c, u, e1, e2⟩ := hP i v hv
      have : l.toArray[i]? = some c := e1
      rw [List.getElem?_toArray] at this
      exact ⟨c, u, this, e2⟩) (by rw [hlen]; exact hsz)
    have hyl := hst.length
    rw [List.length_map] at hyl
    refine spliced_none (PySem.call_bytes_ints (vs := ys.toList) (by rw [Array.toArray_toList]; exact hl) hst (fun n hn => ?_) (by omega) hh fun h5 t5 k5 K5 => ?_)
    · obtain ⟨c, hc, rfl⟩ := List.mem_map.mp hn
      have := hsm c hc
      omega
    · refine eq_bytes ?_
      rw [S9_octs]
      simp only [beq_self_eq_true]
      exact ⟨trivial, h5, _, rfl, fun b ob e => K5 b ob (hk b ob (by simpa using hfr3 (F3.keep _ _ e)) (Heap.get?_push_of_some _ (F3.keep _ _ e)))⟩
end
end Mine
end
section
open PySem PySem.W PyProof.Rows
open PySem.Builtin PySem.Builtin.Str
namespace Mine

theorem RunsAt.list {B : Heap} {X : List Addr} {h : Heap} {Rs : List Value} {P : List Seg} (R : RunsAt B X h Rs P) {a : Addr} (ha : Value.ref a ∈ Rs) : ∃ items, h.IsList a items := by
  obtain ⟨j, hj⟩ := List.getElem?_of_mem ha
  have hjl : j < P.length := by rw [← R.len]; exact (List.getElem?_eq_some_iff.mp hj).1
  obtain ⟨b, t1, t2, e1, e2⟩ := R.at_ j P[j].1 P[j].2 (by rw [List.getElem?_eq_getElem hjl])
  rw [hj] at e1
  have : a = b := by have := Option.some.inj e1; cases this; rfl
  subst this
  exact ⟨_, e2⟩
theorem RunsAt.re {B : Heap} {X X' : List Addr} {h : Heap} {Rs : List Value} {P : List Seg} (R : RunsAt B X h Rs P) (hx : ∀ a items, h.IsList a items → a ∉ X') : RunsAt B X' h Rs P :=
  ⟨R.len, R.at_, R.nodup, fun a ha => by
    obtain ⟨items, hl⟩ := R.list ha
    exact ⟨hx a items hl, (R.apart a ha).2⟩⟩

section
variable {prog : Program} {w : World} {A : Around} {E : Value → Shared → Prop} {B h : Heap} {g : Array GenState} {d : Drawn} {tk : Nat} {os : OsState} {L f l : Addr} {cd : Value} {m : Str → Option Value}

theorem second_loop {T t : List Nat} {P : List Seg} {D Dn Ds e it : Addr} {Rs : List Value} {R : Result → Shared → Prop} {p1 p2 p3 pos pos2 : Pos} {k0 k1 : Nat} (C : Ctx B L) (hfr : A.frames = some [envL L f cd]) (hh : A.handled = none) (hroom : A.depth < recursionLimit) (hu : A.units + 64 < cLine)
    (F : Fr B L h m) (cut : Cut T P t) (hT : ∀ c ∈ T, c < 1114112) (hTl : T.length ≤ 69)
    (hst : IsEnum h e it 0 .none) (hit : h.IsListIter it D 0) (hD : h.IsList D Rs.toArray) (hei : e ≠ it) (hDe : D ≠ e) (hDi : D ≠ it) (heB : B.get? e = none ∧ B.get? it = none)
    (hd : ∀ b, b = e ∨ b = it → b ≠ L ∧ b ≠ L + 1 ∧ b ≠ Dn ∧ b ≠ Ds) (hn : Dn ≠ L ∧ Ds ≠ L ∧ Dn ≠ L + 1 ∧ Ds ≠ L + 1 ∧ D ≠ L ∧ D ≠ L + 1)
    (Rn : RunsAt B [L, L + 1, e, it] h Rs P) (na : NamesAt h Dn) (ti : TitlesAt h Ds) (hc : ∃ v, h.IsCell (L + 1) v) {tl td : Tok} {due : Str}
    (ml : m "left" = some (.str (S9 (leftL P t 0)) tl)) (md : m "due" = some (.str due td)) (mn : m "names" = some (.ref Dn)) (mt : m "shown" = some (.ref Ds))
    (hq : ∀ m' h' tk' tl, Fr B L h' m' → m' "left" = some (.str (S9 (leftL P t P.length)) tl) → m' "due" = some (.str due td) → R (.ok .next) ⟨h', g, d, tk', os⟩) :
    codeAny (model prog w) A (.forLoop (.Tuple [.Name (Str.ofString "turn") p1, .Tuple [.Name (Str.ofString "start") p2, .Name (Str.ofString "run") p3] k1 pos2] k0 pos) (.ref e) turnB [] (envL L f cd)) R ⟨h, g, d, tk, os⟩ := by
  have hsz : Rs.toArray.size = P.length := by rw [List.size_toArray, Rn.len]
  have W := WalksT.enumerate (prog := prog) (w := w) (A := A) hh e it D hei hDe hDi Rs.toArray
  have de := hd e (.inl rfl)
  have di := hd it (.inr rfl)
  refine for_pairs (B := B) (L := L) W (by simp only [List.mem_cons, List.not_mem_nil, or_false]; rintro (q | q); exact de.1 q.symm; exact di.1 q.symm)
    (by intro b hb; simp only [List.mem_cons, List.not_mem_nil, or_false] at hb; rcases hb with rfl | rfl; exact heB.1; exact heB.2)
    (fun i h' st b hb => by
      obtain ⟨⟨old, he⟩, ⟨o, ho, _⟩, ⟨o2, ho2, _⟩⟩ := st
      simp only [List.mem_cons, List.not_mem_nil, or_false] at hb
      rcases hb with rfl | rfl | rfl
      · exact ⟨_, he⟩
      · exact ⟨_, ho⟩
      · exact ⟨_, ho2⟩)
    (fun i m' h' => (∃ tl, m' "left" = some (.str (S9 (leftL P t i)) tl)) ∧ m' "due" = some (.str due td) ∧ m' "names" = some (.ref Dn) ∧ m' "shown" = some (.ref Ds) ∧ RunsAt B [L, L + 1, e, it] h' Rs P ∧ NamesAt h' Dn ∧ TitlesAt h' Ds ∧ ∃ v, h'.IsCell (L + 1) v)
    ?_ F ⟨⟨_, hst⟩, hit, hD⟩ ⟨⟨_, ml⟩, md, mn, mt, Rn, na, ti, hc⟩ ?_ ?_
  · rintro i m' h1 h2 ⟨j1, j2, j3, j4, j5, j6, j7, v, j8⟩ K
    have kk : ∀ {b : Addr} {o : Obj}, b ≠ e → b ≠ it → h1.get? b = some o → h2.get? b = some o := fun n1 n2 e' => K _ _ e' (by simp [n1, n2])
    exact ⟨j1, j2, j3, j4, j5.keeps fun a o ha e' => kk (fun q => (j5.apart a ha).1 (by simp [q])) (fun q => (j5.apart a ha).1 (by simp [q])) e', j6.keeps fun o e' => kk de.2.2.1.symm di.2.2.1.symm e', j7.keeps fun o e' => kk de.2.2.2.symm di.2.2.2.symm e',
      v, isCell_keeps j8 fun o e' => kk de.2.1.symm di.2.1.symm e'⟩
  · rintro i m' h1 tk1 Tp vals E' hi ⟨⟨tl1, j1⟩, j2, j3, j4, j5, j6, j7, v, j8⟩ ⟨ti1, x, hx, rfl⟩ hTp F1 live
    have hiP : i < P.length := by rw [← hsz]; exact hi
    obtain ⟨a, t1, t2, ha, hla⟩ := j5.at_ i P[i].1 P[i].2 (by rw [List.getElem?_eq_getElem hiP])
    have hjP : P[i]? = some (P[i].1, P[i].2) := by rw [List.getElem?_eq_getElem hiP]
    have hxa : x = .ref a := by
      rw [List.getElem?_toArray, ha] at hx
      exact (Option.some.inj hx).symm
    subst hxa
    refine asg3c hh F1 hTp hla j8 C.bc fun h2 tk2 F2 hc2 K2 => ?_
    have k2 : ∀ {b : Addr} {o : Obj}, b ≠ L → b ≠ L + 1 → h1.get? b = some o → h2.get? b = some o := fun n1 n2 e' => K2 _ _ e' (by simp [n1, n2])
    have na2 := j6.keeps (fun o e' => k2 hn.1 hn.2.2.1 e')
    have ti2 := j7.keeps (fun o e' => k2 hn.2.1 hn.2.2.2.1 e')
    refine wpAny_mono (turn7 (T := T) (t := t) (P := P) (j := i) C hfr hh hroom hu F2 cut hT hTl hjP (un (un j1)) (un ue) ue hc2 (un (un j3)) (un (un j4)) na2 ti2) (fun fl s3 hs => ?_) fun _ _ q => q
    obtain ⟨rfl, m3, h3, tk3, rfl, F3, K3, ⟨tl3, l3⟩, x1, x2, x3, x4⟩ := hs
    have k3 : ∀ {b : Addr} {o : Obj}, b ≠ L → h2.get? b = some o → h3.get? b = some o := fun n1 e' => K3 _ _ e' (by simpa using n1)
    refine ⟨rfl, m3, h3, tk3, rfl, F3, fun b hb o e' => ?_, ⟨tl3, l3⟩, x4.trans (un (un j2)), x1.trans (un (un j3)), x2.trans (un (un j4)), j5.keeps fun a' o ha' e' => ?_, na2.keeps fun o e' => k3 hn.1 e', ti2.keeps fun o e' => k3 hn.2.1 e', _, isCell_keeps hc2 fun o e' => k3 (by simp) e'⟩
    · simp only [List.mem_cons, List.not_mem_nil, or_false] at hb
      rcases hb with rfl | rfl | rfl
      · exact k3 de.1 (k2 de.1 de.2.1 e')
      · exact k3 di.1 (k2 di.1 di.2.1 e')
      · exact k3 hn.2.2.2.2.1 (k2 hn.2.2.2.2.1 hn.2.2.2.2.2 e')
    · have nx := (j5.apart a' ha').1
      exact k3 (fun q => nx (by simp [q])) (k2 (fun q => nx (by simp [q])) (fun q => nx (by simp [q])) e')
  · rintro m' h1 tk1 ⟨⟨tl1, j1⟩, j2, _⟩ F1
    rw [hsz] at j1
    exact hq _ _ _ _ F1 j1 j2

theorem law_body (C : Ctx B L) (hfr : A.frames = some [envL L f cd]) (hh : A.handled = none) (hroom : A.depth < recursionLimit) (hu : A.units + 64 < cLine) {vs : List Value} {ns : List Int}
    (F : Fr B L h m) (hm : m "script" = some (.ref l)) (hl : B.IsList l vs.toArray) (hI : IntsAre vs ns) (hn : ns.length ≤ 63) (hc : ∃ v, h.IsCell (L + 1) v) :
    wpAny (model prog w) A (execs lawBody (envL L f cd)) (fun fl s3 => fl = .ret (.bool true) ∧ ∃ h3 tk3, s3 = ⟨h3, g, d, tk3, os⟩ ∧ B.StaysIn h3) E ⟨h, g, d, tk, os⟩ := by
  have hsl : sizeLine = 16777216 := rfl
  refine law_first C hh hroom F hm hl hI hn hc fun m1 h1 tk1 P t D Dn Ds Rs X F1 Z => ?_
  have hlen := text7_len ns
  have hT := text7_lt ns
  have cut : Cut (text7 ns) P t := by have := Z.cut; rw [List.take_of_length_le (Nat.le_refl _)] at this; exact this
  obtain ⟨tt, htx⟩ := Z.text
  obtain ⟨td, hdue⟩ := Z.due
  obtain ⟨n, hD⟩ := Z.lst
  obtain ⟨v0, hcl⟩ := Z.cell
  have hL0 : leftL P t 0 = text7 ns := by rw [leftL_zero]; exact cut.eq
  refine wpAny_execs_cons (wpAny_Assign_Name (ldc F1 htx ?_))
  refine storeC F1 (fun h2 F2 K2 => ?_)
  have kk : ∀ {b : Addr} {o : Obj}, b ≠ L → h1.get? b = some o → h2.get? b = some o := fun n e => K2 _ _ e (by simpa using n)
  have exT : ∀ {h : Heap} {a : Addr} {x y z : Str}, Three h a x y z → ∃ vs n, h.get? a = some (listObj vs n) := fun ⟨_, _, _, _, e⟩ => ⟨_, _, e⟩
  have nfr : ∀ {a : Addr} {items : Array Value}, h1.IsList a items → a ≠ L := fun ⟨o, ho, _, n, hd⟩ => not_frame F1.ns ho (fun _ _ q => by rw [hd] at q; cases q)
  obtain ⟨vn, nn, hDn⟩ := exT Z.na
  obtain ⟨vt, nt, hDs⟩ := exT Z.ti
  have lD : h1.IsList D Rs.toArray := ⟨_, hD, rfl, _, rfl⟩
  have lDn : h1.IsList Dn vn.toArray := ⟨_, hDn, rfl, _, rfl⟩
  have lDs : h1.IsList Ds vt.toArray := ⟨_, hDs, rfl, _, rfl⟩
  have dL := nfr lD
  have dnL := nfr lDn
  have dsL := nfr lDs
  have dC := not_cell hcl lD
  have dnC := not_cell hcl lDn
  have dsC := not_cell hcl lDs
  have lD2 : h2.IsList D Rs.toArray := ⟨_, kk dL hD, rfl, _, rfl⟩
  have cl2 := isCell_keeps hcl fun o e => kk (by simp) e
  have R2 : RunsAt B X h2 Rs P := Z.at_.keeps fun a o ha e => kk (by obtain ⟨items, hla⟩ := Z.at_.list ha; exact nfr hla) e
  refine wpAny_execs_cons (wpAny_For (Call_ (ld_global C.genum F2.keep (PyProof.Rows.callWith_type1 (spliced_more (ldc F2 (un Z.runs) (spliced_none (call_enumerate_list lD2 fun h10 he hit hsz10 K10 => ?_))))))))
  refine wpAny_pyIter_enum he ?_
  dsimp only
  have F10 : Fr B L h10 _ := ⟨F2.ns.keeps K10, fun b o e => K10 b o (F2.keep b o e), F2.above⟩
  have nI : h2.get? h2.objs.size = none := Heap.get?_none_of_le (Nat.le_refl _)
  have nE : h2.get? (h2.objs.size + 1) = none := Heap.get?_none_of_le (Nat.le_succ _)
  have nn2 : ∀ {b : Addr} {o : Obj}, h2.get? b = some o → b ≠ h2.objs.size ∧ b ≠ h2.objs.size + 1 := fun e => ⟨fun q => (by rw [q, nI] at e; cases e), fun q => (by rw [q, nE] at e; cases e)⟩
  obtain ⟨oL, hoL⟩ : ∃ o, h2.get? L = some o := by obtain ⟨o, es, ep, ho, _⟩ := F2.ns; exact ⟨o, ho⟩
  obtain ⟨oc, hoc, hcd⟩ := id cl2
  have R2' : RunsAt B [L, L + 1, h2.objs.size + 1, h2.objs.size] h2 Rs P := R2.re fun a items hla q => by
    obtain ⟨o, ho, _, n', hd'⟩ := id hla
    simp only [List.mem_cons, List.not_mem_nil, or_false] at q
    rcases q with q | q | q | q
    · exact not_frame F2.ns ho (fun _ _ q => by rw [hd'] at q; cases q) q
    · exact not_cell cl2 hla q
    · exact (nn2 ho).2 q
    · exact (nn2 ho).1 q
  refine second_loop (T := text7 ns) (t := t) (P := P) (D := D) (Dn := Dn) (Ds := Ds) (e := h2.objs.size + 1) (it := h2.objs.size) (Rs := Rs) (due := S9 (mendP 0 P ++ t)) (td := td) (tl := tt) C hfr hh hroom hu F10 cut hT (by omega) he hit
    (by obtain ⟨o, ho, r⟩ := lD2; exact ⟨o, K10 _ _ ho, r⟩) (Nat.succ_ne_self _) (nn2 (kk dL hD)).2 (nn2 (kk dL hD)).1 ⟨fresh_B F2 nE, fresh_B F2 nI⟩ ?_ ⟨dnL, dsL, dnC, dsC, dL, dC⟩
    (R2'.keeps fun a o _ e => K10 _ _ e) ((Z.na.keeps fun o e => kk dnL e).keeps fun o e => K10 _ _ e) ((Z.ti.keeps fun o e => kk dsL e).keeps fun o e => K10 _ _ e) ⟨v0, isCell_keeps cl2 fun o e => K10 _ _ e⟩
    (by rw [hL0]; exact ue) (un hdue) (un Z.names) (un Z.shown) fun m' h' tk' tl F' l' d' => ?_
  · rintro b (rfl | rfl)
    · exact ⟨(nn2 hoL).2.symm, (nn2 hoc).2.symm, (nn2 (kk dnL hDn)).2.symm, (nn2 (kk dsL hDs)).2.symm⟩
    · exact ⟨(nn2 hoL).1.symm, (nn2 hoc).1.symm, (nn2 (kk dnL hDn)).1.symm, (nn2 (kk dsL hDs)).1.symm⟩
  · have hfine := left_fine cut hT (by omega) P.length
    rw [leftL_all] at l' hfine
    refine law_end C hfr hh hroom F' l' d' (fun c hc => ?_) hfine
    rcases List.mem_append.mp hc with q | q
    · exact mendP_small 0 P (fun x hx => (cut.seg x hx).1) c q
    · exact cut.tail c q
end

theorem ctx_of {B : Heap} {mg mb : Str → Option Value} (g : B.Ns mainGlobals mg) (b : B.Ns builtinsNs mb) (lim : B.NoLimit) (bu : ∀ x : Str, x ≠ "__name__" → mb x = bootBuiltins x)
    {es : Array DictEntry} {ep : Nat} {cls : Value} {dd : Option Addr} {sl : Array (Option Value)} (h3 : B.get? 3 = some ⟨cls, dd, .dict es ep, sl⟩) {fe fs fm : Addr}
    (e1 : nsFind es "_encode" = some (.ref fe)) (e2 : nsFind es "_law_sign" = some (.ref fs)) (e3 : nsFind es "_law_mend" = some (.ref fm))
    (n1 : nsFind es "UnicodeEncodeError" = none) (n2 : nsFind es "chr" = none) (n3 : nsFind es "str" = none) (n4 : nsFind es "len" = none) (n5 : nsFind es "enumerate" = none) (n6 : nsFind es "type" = none) (n7 : nsFind es "bytes" = none)
    (n8 : nsFind es "ord" = none) (n9 : nsFind es "repr" = none)
    (hf : EncFn B fe) (hs : FnIs B fs (Str.ofString "_law_sign") (stmt7 3)) (hm : FnIs B fm (Str.ofString "_law_mend") (stmt7 4)) : Ctx B B.objs.size := by
  have gv : ∀ x, nsFind es x = mg x := by
    obtain ⟨o, es', ep', ho, hd, _, hf⟩ := g
    rw [show mainGlobals = 3 from rfl, h3] at ho
    cases ho
    cases hd
    exact hf
  have bi : ∀ (x : Str) (v : Value), nsFind es x = none → bootBuiltins x = some v → x ≠ "__name__" → GlobalIs B x v := fun x v h1 h2 h3 =>
    ⟨mg, mb, g, b, .inr ⟨(gv x).symm.trans h1, (bu x h3).trans h2⟩⟩
  have gi : ∀ (x : Str) (v : Value), nsFind es x = some v → GlobalIs B x v := fun x v h1 => ⟨mg, mb, g, b, .inl ((gv x).symm.trans h1)⟩
  exact { bl := Heap.get?_none_of_le (Nat.le_refl _), bc := Heap.get?_none_of_le (Nat.le_succ _), lim := lim, names := ⟨mg, mb, g, (gv _).symm.trans n1, b, (bu _ (by decide)).trans (by decide +kernel)⟩,
          fn := ⟨fe, hf, gi _ _ e1⟩, sign := ⟨fs, hs, gi _ _ e2⟩, mend := ⟨fm, hm, gi _ _ e3⟩, gx := bi _ _ n1 (by decide +kernel) (by decide), gchr := bi _ _ n2 (by decide +kernel) (by decide),
          gord := bi _ _ n8 (by decide +kernel) (by decide), glen := bi _ _ n4 (by decide +kernel) (by decide), grepr := bi _ _ n9 (by decide +kernel) (by decide), genum := bi _ _ n5 (by decide +kernel) (by decide),
          gstr := bi _ _ n3 (by decide +kernel) (by decide), gtype := bi _ _ n6 (by decide +kernel) (by decide), gbytes := bi _ _ n7 (by decide +kernel) (by decide) }
end Mine
end
section
open PySem PySem.W PyProof.Rows
set_option maxHeartbeats 8000000 in
theorem PySem.Challenge.cw_km0023_07_holds : PySem.Challenge.rw_km0023_07.Holds := by
  (w_on; o_law; k_head; (case hw => w_witness2); w_strict (k_go0))
  have T := ‹Top _ _ _ _ _ _›
  have KX := ‹Frag.In _ _›
  have F := ‹Fr _ _ _ _›
  have N0 := ‹News _ _ _ _›
  have hcell := ‹Obj.data _ = Data.cell _›
  have hL := ‹Heap.IsList _ _ _›
  have hI := ‹IntsAre _ _›
  have hcond := ‹¬ (_ : Int) < _›
  refine wpAny_mono (Mine.law_body (E := fun _ _ => False) ?_ ?_ ?_ ?_ ?_ F ?_ hL hI ?_ ⟨_, _, (N0 _ (.head _)).1, hcell⟩) ?_ fun _ _ x => x.elim
  · exact Mine.ctx_of T.g T.b T.nolimit T.builtins (KX 3 _ rfl) rfl rfl rfl rfl rfl rfl rfl rfl rfl rfl rfl rfl
      ⟨_, _, _, _, _, _, _, _, _, _, KX 22 _ rfl, rfl, ⟨_, _, _, _, rfl, KX 21 _ rfl, rfl, rfl⟩, KX 15 _ rfl, rfl⟩
      ⟨_, _, _, _, _, _, KX 29 _ rfl, rfl, ⟨_, _, _, _, rfl, KX 28 _ rfl, rfl, rfl⟩⟩
      ⟨_, _, _, _, _, _, KX 36 _ rfl, rfl, ⟨_, _, _, _, rfl, KX 35 _ rfl, rfl, rfl⟩⟩
  · rfl
  · rfl
  · exact Nat.le_of_ble_eq_true rfl
  · exact Nat.le_of_ble_eq_true rfl
  · rfl
  · omega
  · rintro fl s' ⟨rfl, h3, tk3, rfl, keep⟩
    exact ⟨.inl ⟨_, .bool true, [], rfl, raisesW_false (by wrow_none_raised), .bool true, (by wrow_post), fun _ => ⟨List.nodup_nil, fun a ha => nomatch ha⟩⟩, keep, rfl, ‹_ = #[]›⟩
end
