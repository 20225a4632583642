import PyProof.Rows.All
import Wide.All
import OpenK.AllK
import Wide.FinOn
import Lean
import PySem.Challenge.RW_km0023_08
set_option Elab.async false
set_option maxRecDepth 100000
set_option linter.unusedVariables false
section
open PySem PySem.W PyProof.Rows
open PySem.Builtin._codecs
namespace Mine

def lo (l : List Nat) : Nat := (l.takeWhile (fun c => decide (c < 256))).length
def hi (l : List Nat) : Nat := lo l + ((l.drop (lo l)).takeWhile (fun c => !decide (c < 256))).length

theorem findIdx_getD {p : Nat → Bool} : ∀ l : List Nat, (l.findIdx? p).getD l.length = (l.takeWhile (fun a => !p a)).length
  | [] => rfl
  | a :: l => by
    rw [List.findIdx?_cons, List.takeWhile_cons]
    cases h : p a
    · have := findIdx_getD (p := p) l
      simp only [Bool.not_false, Bool.false_eq_true, if_false, if_true, List.length_cons]
      rw [← this]
      cases l.findIdx? p <;> simp
    · simp

theorem afindIdx_getD {p : Nat → Bool} (a : Array Nat) : (a.findIdx? p).getD a.size = (a.toList.takeWhile (fun c => !p c)).length := by
  obtain ⟨l⟩ := a; rw [← findIdx_getD, List.findIdx?_toArray]; simp

theorem bytes_fold (l : List Nat) (acc : Array UInt8) : l.foldl (fun acc y => acc ++ (latin1Codec.bytesOf y).toArray) acc = acc ++ (l.map (·.toUInt8)).toArray := by
  induction l generalizing acc with
  | nil => simp
  | cons a l ih => rw [List.foldl_cons, ih]; simp [latin1Codec]

theorem bad_eq : latin1Codec.bad = fun c => decide (c ≥ 256) := rfl
theorem nbad_eq : (fun a => !latin1Codec.bad a) = fun c => decide (c < 256) := by funext c; rw [bad_eq]; by_cases h : c < 256 <;> simp [h] <;> omega

theorem nbad_eq2 : (fun a => !!latin1Codec.bad a) = fun c => !decide (c < 256) := by funext c; rw [bad_eq]; by_cases h : c < 256 <;> simp [h] <;> omega

theorem takeWhile_len_le {p : Nat → Bool} (l : List Nat) : (l.takeWhile p).length ≤ l.length := by
  induction l with
  | nil => simp
  | cons a l ih => rw [List.takeWhile_cons]; split <;> simp <;> omega

theorem lo_le (l : List Nat) : lo l ≤ l.length := takeWhile_len_le l

theorem takeWhile_good {p : Nat → Bool} : ∀ (l : List Nat) (i : Nat) (h : i < (l.takeWhile p).length) (h' : i < l.length), p l[i] = true
  | a :: l, i, h, h' => by
    rw [List.takeWhile_cons] at h
    split at h
    · cases i with
      | zero => assumption
      | succ i => exact takeWhile_good l i (by simpa using h) (by simpa using h')
    · simp at h
theorem lo_good (l : List Nat) (i : Nat) (h : i < lo l) (h' : i < l.length) : l[i] < 256 := by
  have := takeWhile_good l i h h'
  simpa using this
theorem takeWhile_stop {p : Nat → Bool} : ∀ (l : List Nat) (h : (l.takeWhile p).length < l.length), p l[(l.takeWhile p).length] = false
  | a :: l, h => by
    by_cases ha : p a = true
    · have h1 : ((a :: l).takeWhile p) = a :: l.takeWhile p := by rw [List.takeWhile_cons, if_pos ha]
      have := takeWhile_stop l (by rw [h1] at h; simpa using h)
      simpa [h1] using this
    · have h1 : ((a :: l).takeWhile p) = [] := by rw [List.takeWhile_cons, if_neg ha]
      simpa [h1] using ha
theorem lo_stop (l : List Nat) (h : lo l < l.length) : ¬ l[lo l] < 256 := by
  have := takeWhile_stop l h
  unfold lo
  simpa using this

theorem enc_narrow {M : Model} {A : Around} {E : Value → Shared → Prop} {s : Shared} {id : String} {self : Value} {x : Str} {Q : Array UInt8 → Shared → Prop}
    (hx : x.length ≤ sizeLine)
    (hok : lo x.cps.toList = x.cps.toList.length → Q (x.cps.toList.map (·.toUInt8)).toArray s)
    (hbad : lo x.cps.toList < x.cps.toList.length → ∀ Q' : PUnit → Shared → Prop, wpAny M A (raiseEncodeFault {} "latin-1" self (lo x.cps.toList) (hi x.cps.toList) "ordinal not in range(256)") Q' E s) :
    wpAny M A (encodeNarrow id latin1Codec none self x) Q E s := by
  unfold encodeNarrow
  simp only [Std.Legacy.Range.forIn_eq_forIn_range']
  refine wpAny_bind ?_
  have hlen : x.cps.toList.length = x.length := Array.length_toList
  refine wpAny_forIn_list _ (fun rest b s' => s' = s ∧ ((b = (0, #[], {}) ∧ rest.length = x.length) ∨
    (b = (lo x.cps.toList, ((x.cps.toList.take (lo x.cps.toList)).map (·.toUInt8)).toArray, {}) ∧ rest.length + 1 = x.length ∧ 0 < lo x.cps.toList))) _ ?_ ?_ _ _ ⟨rfl, .inl ⟨rfl, by simp [Std.Legacy.Range.size]⟩⟩
  · rintro y rest b s' ⟨rfl, hb⟩
    have hlo := lo_le x.cps.toList
    have hgood : ∀ i, i < lo x.cps.toList → ∃ c, x.cps[i]? = some c ∧ c < 256 := fun i hi => by
      have hi' : i < x.cps.toList.length := Nat.lt_of_lt_of_le hi hlo
      refine ⟨x.cps.toList[i], by rw [← Array.getElem?_toList, List.getElem?_eq_getElem hi'], ?_⟩
      exact lo_good _ _ hi hi'
    have hstrict : ((none : Option Str).getD (Str.ofString "strict")).toString = "strict" := by decide +kernel
    have hstop : ∀ i, i ≤ x.cps.size → lo x.cps.toList = i → i + (Array.findIdx? (fun y => !latin1Codec.bad y) (x.cps.extract i)).getD (x.cps.size - i) = hi x.cps.toList := fun i hi e => by
      subst e
      have e1 : x.cps.size - lo x.cps.toList = (x.cps.extract (lo x.cps.toList)).size := by simp
      rw [e1, afindIdx_getD]
      simp only [nbad_eq2, Array.toList_extract]
      unfold Mine.hi
      congr 3
      simp [List.extract_eq_take_drop, List.take_of_length_le]
    have hfault : ∀ {β : Type} (i : Nat) (st : Faults) (f : PUnit → Sem β) (Q' : β → Shared → Prop), i ≤ x.cps.size → i < x.cps.toList.length → lo x.cps.toList = i → st = {} →
        wpAny M A (do
          let r ← raiseEncodeFault st latin1Codec.name self i (i + (Array.findIdx? (fun y => !latin1Codec.bad y) (x.cps.extract i)).getD (x.cps.size - i)) latin1Codec.reason
          f r) Q' E s' := fun i st f Q' h1 h2 h3 h4 => by
      rw [hstop i h1 h3]
      subst h4; subst h3
      exact wpAny_bind (hbad h2 _)
    rcases hb with ⟨rfl, hr⟩ | ⟨rfl, hr, h0⟩
    · dsimp only
      rw [if_neg (by simp)]
      have hpos : 0 < x.cps.size := by have := List.length_cons (a := y) (as := rest); rw [hr] at this; have e : x.length = x.cps.size := rfl; omega
      rw [Array.getElem?_eq_getElem hpos]
      dsimp only
      have hpl : 0 < x.cps.toList.length := by simpa using hpos
      have e0 : x.cps[0] = x.cps.toList[0] := by simp
      by_cases hb : x.cps[0] < 256
      · rw [if_pos (by simp [bad_eq, hb])]
        refine wpAny_pure ⟨rfl, .inr ⟨?_, ?_, ?_⟩⟩
        · have e1 : (Array.findIdx? latin1Codec.bad x.cps.extract).getD x.cps.extract.size = lo x.cps.toList := by
            rw [afindIdx_getD, nbad_eq]; unfold lo; simp
          rw [e1, Nat.zero_add]
          refine congrArg _ (Prod.ext ?_ rfl)
          show Array.foldl _ _ _ = _
          rw [← Array.foldl_toList, bytes_fold]
          simp [List.extract_eq_take_drop]
        · rw [← hr]; rfl
        · rw [e0] at hb
          unfold lo
          cases hl : x.cps.toList with
          | nil => rw [hl] at hpl; simp at hpl
          | cons a l =>
            simp only [hl, List.getElem_cons_zero] at hb
            rw [List.takeWhile_cons, if_pos (by simpa using hb)]; simp
      · rw [if_neg (by simp [bad_eq]; omega)]
        refine wpAny_bind (wpAny_rule ?_)
        rw [hstrict]
        wp_step
        wp_step
        refine hfault 0 _ _ _ (Nat.zero_le _) hpl ?_ rfl
        cases hz : lo x.cps.toList with
        | zero => rfl
        | succ n => exact absurd (lo_good _ 0 (by rw [hz]; omega) hpl) (by rw [← e0]; exact hb)
    · dsimp only
      rw [if_neg (by simp; have : x.length ≤ sizeLine := hx; omega)]
      by_cases hb : lo x.cps.toList < x.cps.toList.length
      · have hst := lo_stop _ hb
        rw [← Array.getElem?_toList, List.getElem?_eq_getElem hb]
        dsimp only
        rw [if_neg (by simp only [bad_eq]; simpa using hst)]
        refine wpAny_bind (wpAny_rule ?_)
        rw [hstrict]
        wp_step
        wp_step
        exact hfault _ _ _ _ hlo hb rfl rfl
      · have he : lo x.cps.toList = x.cps.toList.length := by omega
        rw [← Array.getElem?_toList, List.getElem?_eq_none (by omega)]
        dsimp only
        refine wpAny_pure (wpAny_pure ?_)
        rw [he, List.take_length]
        exact hok he
  · rintro b s' ⟨rfl, hb⟩
    refine wpAny_pure ?_
    have hlo := lo_le x.cps.toList
    rcases hb with ⟨rfl, hr⟩ | ⟨rfl, hr, h0⟩
    · have : x.cps.toList = [] := List.length_eq_zero_iff.mp (by rw [hlen, ← hr]; rfl)
      simpa [this, lo] using hok
    · have he : lo x.cps.toList = x.cps.toList.length := by rw [List.length_nil] at hr; omega
      show Q _ _
      rw [he, List.take_length]
      exact hok he
end Mine
end
section
open PySem PySem.W PyProof.Rows
open PySem.Builtin.UnicodeEncodeError
namespace Mine

structure Up1 (a : Addr) (h h' : Heap) : Prop where
  same : ∀ b, b ≠ a → h'.get? b = h.get? b
  size : h'.objs.size = h.objs.size
theorem Up1.refl (a : Addr) (h : Heap) : Up1 a h h := ⟨fun _ _ => rfl, rfl⟩
theorem Up1.trans {a : Addr} {h₁ h₂ h₃ : Heap} (x : Up1 a h₁ h₂) (y : Up1 a h₂ h₃) : Up1 a h₁ h₃ :=
  ⟨fun b hb => (y.same b hb).trans (x.same b hb), y.size.trans x.size⟩
theorem Up1.update (a : Addr) (h : Heap) (f : Obj → Obj) : Up1 a h (h.update a f) :=
  ⟨fun b hb => Heap.get?_update_other h f (Ne.symm hb), by cases h; simp [Heap.update]⟩

section
variable {M : Model} {A : Around} {E : Value → Shared → Prop} {h : Heap} {g : Array GenState} {d : Drawn} {t : Nat} {os : OsState}

theorem wp_setMembers0 {a : Addr} {cls : Value} {dd : Option Addr} {sl : Array (Option Value)} {v0 v1 v2 v3 v4 v5 : Value} {m : Members} {Q : Unit → Shared → Prop}
    (ho : h.get? a = some ⟨cls, dd, .fields #[v0, v1, v2, v3, v4, v5], sl⟩)
    (hq : ∀ h', Up1 a h h' → h'.get? a = some ⟨cls, dd, .fields #[v0, v1, v2, v3, v4, v5, m.encoding, m.object, rawInt m.start, rawInt m.stop, m.reason], sl⟩ → Q () ⟨h', g, d, t, os⟩) :
    wpAny M A (setMembers (.ref a) m) Q E ⟨h, g, d, t, os⟩ := by
  unfold setMembers
  refine wpAny_updateFields (s := ⟨h, g, d, t, os⟩) ho rfl (hq _ (Up1.update ..) ((Heap.get?_update_self _ ho rfl).trans ?_)) ?_
  · simp [Obj.mapFields]
  · simp [sizeLine]
theorem wp_setMembers {a : Addr} {cls : Value} {dd : Option Addr} {sl : Array (Option Value)} {v0 v1 v2 v3 v4 v5 w0 w1 w2 w3 w4 : Value} {m : Members} {Q : Unit → Shared → Prop}
    (ho : h.get? a = some ⟨cls, dd, .fields #[v0, v1, v2, v3, v4, v5, w0, w1, w2, w3, w4], sl⟩)
    (hq : ∀ h', Up1 a h h' → h'.get? a = some ⟨cls, dd, .fields #[v0, v1, v2, v3, v4, v5, m.encoding, m.object, rawInt m.start, rawInt m.stop, m.reason], sl⟩ → Q () ⟨h', g, d, t, os⟩) :
    wpAny M A (setMembers (.ref a) m) Q E ⟨h, g, d, t, os⟩ := by
  unfold setMembers
  refine wpAny_updateFields (s := ⟨h, g, d, t, os⟩) ho rfl (hq _ (Up1.update ..) ((Heap.get?_update_self _ ho rfl).trans ?_)) ?_
  · simp [Obj.mapFields]
  · simp [sizeLine]

theorem wp_setField {a : Addr} {cls : Value} {dd : Option Addr} {sl : Array (Option Value)} {vs : Array Value} {i : Nat} {x : Value} {Q : Unit → Shared → Prop}
    (ho : h.get? a = some ⟨cls, dd, .fields vs, sl⟩) (hi : i < vs.size)
    (hq : ∀ h', Up1 a h h' → h'.get? a = some ⟨cls, dd, .fields (vs.setIfInBounds i x), sl⟩ → Q () ⟨h', g, d, t, os⟩) :
    wpAny M A (setField (.ref a) i x) Q E ⟨h, g, d, t, os⟩ :=
  wpAny_setField (s := ⟨h, g, d, t, os⟩) ho rfl hi (hq _ (Up1.update ..) (Heap.get?_update_self _ ho rfl))

theorem wp_members0 {a : Addr} {cls : Value} {dd : Option Addr} {sl : Array (Option Value)} {v0 v1 v2 v3 v4 v5 : Value} {Q : Members → Shared → Prop}
    (ho : h.get? a = some ⟨cls, dd, .fields #[v0, v1, v2, v3, v4, v5], sl⟩) (hq : Q {} ⟨h, g, d, t, os⟩) :
    wpAny M A (members (.ref a)) Q E ⟨h, g, d, t, os⟩ := by
  unfold members
  refine wpAny_bind (wpAny_fieldsOf (s := ⟨h, g, d, t, os⟩) ho rfl ?_)
  exact wpAny_pure hq
theorem wp_members {a : Addr} {cls : Value} {dd : Option Addr} {sl : Array (Option Value)} {v0 v1 v2 v3 v4 v5 en ob re : Value} {i j : Int} {ti tj : Tok} {Q : Members → Shared → Prop}
    (ho : h.get? a = some ⟨cls, dd, .fields #[v0, v1, v2, v3, v4, v5, en, ob, .int i ti, .int j tj, re], sl⟩) (hq : Q ⟨en, ob, i, j, re⟩ ⟨h, g, d, t, os⟩) :
    wpAny M A (members (.ref a)) Q E ⟨h, g, d, t, os⟩ := by
  unfold members
  refine wpAny_bind (wpAny_fieldsOf (s := ⟨h, g, d, t, os⟩) ho rfl ?_)
  exact wpAny_pure hq
end

abbrev ueArgs (en ob re : Str) (i j : Int) (t1 t2 t3 t4 t5 : Tok) : List Value := [.str en t1, .str ob t2, .int i t3, .int j t4, .str re t5]
abbrev ueObj (t : Addr) (tb cx ca su : Value) (en ob re : Str) (i j : Int) (t1 t2 t5 : Tok) : Obj :=
  { cls := .type "UnicodeEncodeError", data := .fields #[.ref t, tb, cx, ca, su, .none, .str en t1, .str ob t2, rawInt i, rawInt j, .str re t5] }

structure MadeU (h h' : Heap) (e t : Addr) (en ob re : Str) (i j : Int) (t1 t2 t3 t4 t5 : Tok) : Prop where
  keeps : ∀ b o, h.get? b = some o → h'.get? b = some o
  new : h.get? e = none
  newT : h.get? t = none
  exc : h'.get? e = some (ueObj t .none .none .none (.bool false) en ob re i j t1 t2 t5)
  tup : h'.get? t = some { cls := .type "tuple", data := .seq (ueArgs en ob re i j t1 t2 t3 t4 t5).toArray }

section
variable {M : Model} {A : Around} {E : Value → Shared → Prop} {h : Heap} {g : Array GenState} {d : Drawn} {t : Nat} {os : OsState}

theorem ue_init {e t0 : Addr} {en ob re : Str} {i j : Int} {t1 t2 t3 t4 t5 : Tok} {Q : Fin → Shared → Prop}
    (he : h.get? e = some { cls := .type "UnicodeEncodeError", data := .fields #[.ref t0, .none, .none, .none, .bool false, .none] })
    (hi : 0 ≤ i ∧ i < 2 ^ 63) (hj : 0 ≤ j ∧ j < 2 ^ 63)
    (hq : ∀ h' t', (∀ b o, b ≠ e → h.get? b = some o → h'.get? b = some o) → h.get? t' = none → h'.get? e = some (ueObj t' .none .none .none (.bool false) en ob re i j t1 t2 t5) →
      h'.get? t' = some { cls := .type "tuple", data := .seq (ueArgs en ob re i j t1 t2 t3 t4 t5).toArray } → Q (.done (.ret .none)) ⟨h', g, d, t, os⟩) :
    wpAny M A (Builtin.«UnicodeEncodeError.__init__» ⟨.ref e :: ueArgs en ob re i j t1 t2 t3 t4 t5, []⟩) Q E ⟨h, g, d, t, os⟩ := by
  unfold Builtin.«UnicodeEncodeError.__init__»
  dsimp only
  refine wpAny_bind ?_
  unfold beginInit
  dsimp only
  wp_step
  refine wpAny_bind (wpAny_field (s := ⟨h, g, d, t, os⟩) he rfl (x := .ref t0) rfl ?_)
  refine wpAny_bind (wpAny_newTuple (s := ⟨h, g, d, t, os⟩) ?_ (by simp [ueArgs, sizeLine]))
  have hlt := Heap.lt_size he
  have he0 := Heap.get?_push_of_some (h := h) { cls := .type "tuple", data := .seq (ueArgs en ob re i j t1 t2 t3 t4 t5).toArray } he
  have ht0 := Heap.get?_push_size h (o := { cls := .type "tuple", data := .seq (ueArgs en ob re i j t1 t2 t3 t4 t5).toArray }) rfl
  have hne : h.objs.size ≠ e := Nat.ne_of_gt hlt
  refine wpAny_bind (wp_setField he0 (by simp) fun h1 u1 e1 => ?_)
  replace e1 : h1.get? e = some ⟨.type "UnicodeEncodeError", none, .fields #[.ref h.objs.size, .none, .none, .none, .bool false, .none], #[]⟩ := e1
  refine wpAny_bind (wpAny_letGo ?_)
  rw [if_pos (show ((5 : Nat) == 5) = true from rfl)]
  refine wpAny_bind (wp_members0 e1 ?_)
  refine wpAny_bind (wp_setMembers0 e1 fun h2 u2 e2 => ?_)
  refine wpAny_bind (wpAny_letGo ?_)
  simp only [rawInt] at e2
  refine wpAny_bind (wp_members e2 ?_)
  refine wpAny_bind (wp_setMembers e2 fun h3 u3 e3 => ?_)
  refine wpAny_bind (wpAny_letGo ?_)
  simp only [rawInt] at e3
  refine wpAny_bind (wp_members e3 ?_)
  refine wpAny_bind (wp_setMembers e3 fun h4 u4 e4 => ?_)
  refine wpAny_bind (wpAny_letGo ?_)
  rw [if_neg (show ¬ (((ueArgs en ob re i j t1 t2 t3 t4 t5).length != 5) = true) by simp [ueArgs])]
  refine wpAny_pure ?_
  dsimp only
  refine wpAny_bind (wpAny_of_eq (a := ()) rfl ?_)
  refine wpAny_bind (wpAny_of_eq (a := ()) rfl ?_)
  refine wpAny_bind ?_
  unfold initRange sizeArgument
  simp only [rawInt] at e4
  have hni : ∀ {z : Int}, (0 ≤ z ∧ z < 2 ^ 63) → ¬ ((decide (z < -2 ^ 63) || decide (z ≥ 2 ^ 63)) = true) := fun {z} hz => by
    simp only [Bool.or_eq_true, decide_eq_true_eq, not_or]; omega
  refine wpAny_bind (wpAny_bind ?_)
  refine wpAny_of_eq (a := i) rfl ?_
  rw [if_neg (hni hi)]
  refine wpAny_pure (wpAny_bind (wp_members e4 (wpAny_bind (wp_setMembers e4 fun h5 u5 e5 => ?_))))
  simp only [rawInt] at e5
  refine wpAny_bind (wpAny_bind ?_)
  refine wpAny_of_eq (a := j) rfl ?_
  rw [if_neg (hni hj)]
  refine wpAny_pure (wpAny_bind (wp_members e5 (wp_setMembers e5 fun h6 u6 e6 => ?_)))
  simp only [rawInt] at e6
  refine wpAny_bind ?_
  refine wpAny_of_eq (a := ()) rfl ?_
  refine wpAny_bind (wp_members e6 (wpAny_bind (wp_setMembers e6 fun h7 u7 e7 => wpAny_pure ?_)))
  have u := (((((u1.trans u2).trans u3).trans u4).trans u5).trans u6).trans u7
  refine hq h7 h.objs.size (fun b o hb ho => (u.same b hb).trans (Heap.get?_push_of_some _ ho)) (Heap.get?_none_of_le (Nat.le_refl _)) e7 ((u.same _ hne).trans ht0)
end

theorem ue_new : ExcNewFacts "UnicodeEncodeError" "UnicodeEncodeError.__new__" where
  ends := by decide +kernel
  owner := by decide +kernel
  entry := entryFor_alias (id' := "BaseException.__new__") (by rw [fastTable_eq_tree]; kernel_rfl) (by first | rfl | decide +kernel) (by decide +kernel) (by rw [fastTable_eq_tree]; kernel_rfl)
  sub := by rw [isSubtype_type]; kernel_rfl
  notAttr := by rw [isSubtype_type]; kernel_rfl
  notName := by rw [isSubtype_type]; kernel_rfl
  made := by kernel_rfl
theorem ue_slot : Slot "UnicodeEncodeError" "__init__" "UnicodeEncodeError.__init__" :=
  .of (owner := "UnicodeEncodeError") (n := "__init__") (by rw [typeLookup_type, builtinLookup_eq_fast]; kernel_rfl) (by decide +kernel) (by decide +kernel) (by decide +kernel)
    (by first | exact .inl (by decide +kernel) | exact .inr (by decide +kernel)) (by rw [isSubtype_type]; kernel_rfl)
theorem ue_args (rest : List Value) : argsOk "UnicodeEncodeError.__init__" ⟨rest, []⟩ := by kernel_rfl
theorem ue_entry : entryFor table "UnicodeEncodeError.__init__" = some Builtin.«UnicodeEncodeError.__init__» := entryFor_of_tree (by kernel_rfl)
theorem ue_raise : ExcRaiseFacts "UnicodeEncodeError" where
  isExc := by rw [isSubtype_type]; kernel_rfl
  plainMeta := by kernel_rfl

section
variable {prog : Program} {w : World} {A : Around} {E : Value → Shared → Prop} {hp : Heap} {g : Array GenState} {d : Drawn} {tk : Nat} {os : OsState}
theorem ue_type_call {en ob re : Str} {i j : Int} {t1 t2 t3 t4 t5 : Tok} {Q : Fin → Shared → Prop} (hi : 0 ≤ i ∧ i < 2 ^ 63) (hj : 0 ≤ j ∧ j < 2 ^ 63)
    (h : ∀ h' e t, MadeU hp h' e t en ob re i j t1 t2 t3 t4 t5 → Q (.done (.ret (.ref e))) ⟨h', g, d, tk, os⟩) :
    wpAny (model prog w) A (Builtin.«type.__call__» ⟨.type "UnicodeEncodeError" :: ueArgs en ob re i j t1 t2 t3 t4 t5, []⟩) Q E ⟨hp, g, d, tk, os⟩ := by
  have hnt : (Value.type "UnicodeEncodeError" == Value.type "type") = false := by decide +kernel
  have hcan : ((Manifest.find? "UnicodeEncodeError").bind fun x => List.findSome? (fun t => (Manifest.find? t).bind fun b =>
    if b.noNew = true then some true else if (b.attrs.any fun x => x.fst == "__new__") = true then some false else none) x.mro).getD false = false := by kernel_rfl
  have hchk : checkTypeCall "UnicodeEncodeError" ⟨ueArgs en ob re i j t1 t2 t3 t4 t5, []⟩ = pure () := by kernel_rfl
  have hmro : mroOf (.type "UnicodeEncodeError") = pure [.type "UnicodeEncodeError", .type "UnicodeError", .type "ValueError", .type "Exception", .type "BaseException", .type "object"] := by rw [mroOf_type]; kernel_rfl
  have hmade : Bind.madeBy (.type "UnicodeEncodeError") = pure (some "UnicodeEncodeError.__new__") := by kernel_rfl
  wp_walk
  refine codeAny_call_builtin_code (Code.quiet_builtin _ (by decide +kernel)) (wpAny_of_eq (show checkBuiltinCall "UnicodeEncodeError.__new__" ⟨.type "UnicodeEncodeError" :: ueArgs en ob re i j t1 t2 t3 t4 t5, []⟩ = pure () by kernel_rfl) ?_)
  refine codeAny_exc_new ue_new ?_ (by simp [ueArgs, sizeLine])
  show wpAny _ _ _ _ _ _
  have hget : ((hp.push { cls := .type "tuple", data := .seq (ueArgs en ob re i j t1 t2 t3 t4 t5).toArray }).push
      { cls := .type "UnicodeEncodeError", data := .fields #[.ref hp.objs.size, .none, .none, .none, .bool false, .none] }).get? (hp.objs.size + 1) = some
      { cls := .type "UnicodeEncodeError", data := .fields #[.ref hp.objs.size, .none, .none, .none, .bool false, .none] } := by heap_get
  refine wpAny_bind (wpAny_isInstance ⟨_, hget, rfl⟩ ue_new.sub ?_)
  wp_step
  refine wpAny_bind (wpAny_holding (wpAny_callSpecial?_slot ⟨_, hget, rfl⟩ ue_slot (wpAny_call (codeAny_call_builtin ue_slot.plain ue_entry
    (ue_slot.check _ _ _ _ _ _ _ _ ⟨_, hget, rfl⟩ (ue_args _) ?_)))))
  refine ue_init hget hi hj fun h' t' k1 k2 k3 k4 => ?_
  wp_walk
  refine h h' (hp.objs.size + 1) t' ⟨fun b o hb => k1 b o (Nat.ne_of_lt (Nat.lt_succ_of_lt (Heap.lt_size hb))) (Heap.get?_push_of_some _ (Heap.get?_push_of_some _ hb)), Heap.get?_none_of_le (Nat.le_succ _), ?_, k3, k4⟩
  cases hq : hp.get? t' with
  | none => rfl
  | some o => rw [Heap.get?_push_of_some _ (Heap.get?_push_of_some _ hq)] at k2; cases k2

theorem ue_call {en ob re : Str} {i j : Int} {t1 t2 t3 t4 t5 : Tok} {Q : Value → Shared → Prop} (hi : 0 ≤ i ∧ i < 2 ^ 63) (hj : 0 ≤ j ∧ j < 2 ^ 63)
    (h : ∀ h' e t, MadeU hp h' e t en ob re i j t1 t2 t3 t4 t5 → Q (.ref e) ⟨h', g, d, tk, os⟩) :
    wpAny (model prog w) A (call (.type "UnicodeEncodeError") (ueArgs en ob re i j t1 t2 t3 t4 t5)) Q E ⟨hp, g, d, tk, os⟩ := by
  refine wpAny_call (codeAny_of_tree ?_)
  show wpAny _ _ (again (.builtin "type.__call__" ⟨.type "UnicodeEncodeError" :: ueArgs en ob re i j t1 t2 t3 t4 t5, []⟩)) _ _ _
  exact wpAny_pure ⟨Code.quiet_builtin _ (by decide +kernel), codeAny_builtin entry_typeCall (ue_type_call hi hj fun h' e t hm => h h' e t hm)⟩
end
end Mine
end
section
open PySem PySem.W PyProof.Rows
namespace Mine

def noHeap : Heap := {}
theorem noHeap_get (a : Addr) : noHeap.get? a = none := by simp [noHeap, Heap.get?]

structure Tch (xs fs : List Addr) (h h' : Heap) : Prop where
  keep : ∀ b o, h.get? b = some o → b ∉ xs → b ∉ fs → h'.get? b = some o
  slot : ∀ b o, h.get? b = some o → b ∉ xs → b ∈ fs → ∃ sl, h'.get? b = some { o with slots := sl }

theorem Tch.refl (xs fs : List Addr) (h : Heap) : Tch xs fs h h := ⟨fun _ _ e _ _ => e, fun _ o e _ _ => ⟨o.slots, e⟩⟩
theorem Tch.trans {xs fs : List Addr} {h₁ h₂ h₃ : Heap} (x : Tch xs fs h₁ h₂) (y : Tch xs fs h₂ h₃) : Tch xs fs h₁ h₃ :=
  ⟨fun b o e n m => y.keep b o (x.keep b o e n m) n m, fun b o e n m => by
    obtain ⟨sl, e1⟩ := x.slot b o e n m
    obtain ⟨sl2, e2⟩ := y.slot b _ e1 n m
    exact ⟨sl2, e2⟩⟩
theorem Tch.mono {xs ys fs : List Addr} {h h' : Heap} (x : Tch xs fs h h') (s : ∀ b ∈ xs, b ∈ ys) : Tch ys fs h h' :=
  ⟨fun b o e n m => x.keep b o e (fun q => n (s b q)) m, fun b o e n m => x.slot b o e (fun q => n (s b q)) m⟩
theorem Tch.of_stays {xs fs : List Addr} {h h' : Heap} (k : h.StaysIn h') : Tch xs fs h h' := ⟨fun b o e _ _ => k b o e, fun b o e _ _ => ⟨o.slots, k b o e⟩⟩
theorem Tch.of_up1 {a : Addr} {xs fs : List Addr} {h h' : Heap} (u : Up1 a h h') (ha : a ∈ xs) : Tch xs fs h h' :=
  ⟨fun b o e n _ => (u.same b fun q => n (q ▸ ha)).trans e, fun b o e n _ => ⟨o.slots, (u.same b fun q => n (q ▸ ha)).trans e⟩⟩
theorem Tch.of_slotsOnly {xs fs : List Addr} {h h' : Heap} (x : Heap.SlotsOnly fs h h') : Tch xs fs h h' :=
  ⟨fun b o e _ m => (x.2.1 b m).trans e, fun b o e _ _ => x.2.2 b o e⟩
theorem Tch.some {xs fs : List Addr} {h h' : Heap} (x : Tch xs fs h h') {b : Addr} {o : Obj} (e : h.get? b = some o) (n : b ∉ xs) : ∃ sl, h'.get? b = some { o with slots := sl } := by
  by_cases m : b ∈ fs
  · exact x.slot b o e n m
  · exact ⟨o.slots, x.keep b o e n m⟩
theorem Tch.none {fs : List Addr} {h h' : Heap} (x : Tch [] fs h h') {b : Addr} (e : h'.get? b = none) : h.get? b = none := by
  cases hq : h.get? b with
  | none => rfl
  | some o => obtain ⟨sl, e2⟩ := x.some hq (by simp); rw [e] at e2; cases e2
theorem Tch.fresh {xs fs : List Addr} {B h h' : Heap} (S : Tch [] fs B h) (x : Tch xs fs h h') (hx : ∀ a ∈ xs, B.get? a = Option.none) : Tch [] fs B h' := by
  have nx : ∀ b o, B.get? b = Option.some o → b ∉ xs := fun b o e q => by rw [hx b q] at e; cases e
  refine ⟨fun b o e n m => x.keep b o (S.keep b o e n m) (nx b o e) m, fun b o e n m => ?_⟩
  obtain ⟨sl, e1⟩ := S.slot b o e n m
  obtain ⟨sl2, e2⟩ := x.slot b _ e1 (nx b o e) m
  exact ⟨sl2, e2⟩
theorem Tch.ns {xs fs : List Addr} {h h' : Heap} (x : Tch xs fs h h') {L : Addr} {m : Str → Option Value} (n : L ∉ xs) (hn : h.Ns L m) : h'.Ns L m := by
  obtain ⟨o, es, ep, ho, hd, r⟩ := hn
  obtain ⟨sl, hs⟩ := x.some ho n
  exact ⟨_, es, ep, hs, hd, r⟩
theorem Tch.ff {xs fs : List Addr} {h h' base : Heap} (x : Tch xs fs h h') (hx : ∀ a ∈ xs, ∀ o, h.get? a = Option.some o → ∃ vs, o.data = .fields vs) {l : List Env} (hl : h.FunFrames base l) : h'.FunFrames base l :=
  hl.of_keeps fun b o hb hd => by
    obtain ⟨sl, e⟩ := x.some hb (fun q => by obtain ⟨vs, e⟩ := hx b q o hb; exact hd vs e)
    exact ⟨_, e, rfl⟩

def TB (h : Heap) (T : Addr) (fl : Value) : Prop := ∃ oT ts, h.get? T = some oT ∧ oT.data = .fields ts ∧ ts[3]? = some fl
theorem TB.fields {h : Heap} {T : Addr} {fl : Value} (x : TB h T fl) : ∀ o, h.get? T = some o → ∃ vs, o.data = .fields vs := fun o e => by
  obtain ⟨oT, ts, e1, e2, _⟩ := x
  rw [e1] at e; cases e; exact ⟨ts, e2⟩
theorem TB.ne {h : Heap} {T : Addr} {fl : Value} (x : TB h T fl) {l : List Env} {base : Heap} (hl : h.FunFrames base l) : T ∉ l.filterMap (·.frame) := fun q => by
  obtain ⟨oT, ts, e1, e2, _⟩ := x
  obtain ⟨_, o, ho, hnf⟩ := hl.mem q
  rw [e1] at ho; cases ho; exact hnf ts e2
theorem TB.tch {xs : List Addr} {h h' : Heap} {T : Addr} {fl : Value} {l : List Env} {base : Heap} (x : TB h T fl) (hl : h.FunFrames base l) (y : Tch xs (l.filterMap (·.frame)) h h') (hn : T ∉ xs) : TB h' T fl := by
  have nf := x.ne hl
  obtain ⟨oT, ts, e1, e2, e3⟩ := x
  exact ⟨oT, ts, y.keep T oT e1 hn nf, e2, e3⟩

section
variable {M : Model} {A : Around} {E : Value → Shared → Prop} {h : Heap} {g : Array GenState} {d : Drawn} {t : Nat} {os : OsState}
  {env : Env} {outer : List Env} {L e : Addr} {cls : Value} {dd : Option Addr} {sl : Array (Option Value)} {vs : Array Value} {base : Heap}

theorem ff_apart (hl : h.FunFrames base (env :: outer)) {a : Addr} {o : Obj} (he : h.get? a = some o) (hd : o.data = .fields vs) : a ∉ (env :: outer).filterMap (·.frame) := fun hm => by
  obtain ⟨_, o', ho, hnf⟩ := hl.mem hm
  rw [he] at ho; cases ho; exact hnf vs hd

theorem new_entry {head : Value} {hadNext : Bool} {Q : Unit → Shared → Prop} (hfr : A.frames = some (env :: outer)) (hl : h.FunFrames base (env :: outer)) (hf : env.frame = some L)
    (he : h.get? e = some ⟨cls, dd, .fields vs, sl⟩) (hsz : 1 < vs.size)
    (k : ∀ h' T, Tch [e] ((env :: outer).filterMap (·.frame)) h h' → h'.FunFrames base (env :: outer) → h.get? T = none → T ≠ e →
      h'.get? e = some ⟨cls, dd, .fields (vs.setIfInBounds 1 (.ref T)), sl⟩ → TB h' T (rawInt L) → Q () ⟨h', g, d, t, os⟩) :
    wpAny M A (do let a ← frameOf env; let pl ← entryPlaceOf L hadNext; let b ← EntryCells.newEntry head a .none (rawInt L) .none pl; setField (.ref e) 1 b) Q E ⟨h, g, d, t, os⟩ := by
  have hene := ff_apart hl he rfl
  refine wpAny_bind (wpAny_frameOf_fun (s := ⟨h, g, d, t, os⟩) hfr hl hf fun h₁ hs₁ => ?_)
  refine wpAny_bind (wpAny_entryPlaceOf fun pl hpl => ?_)
  unfold EntryCells.newEntry newFields
  refine wpAny_bind (wpAny_newObj_type ?_ (hpl.sizeOk5 _ _ _ _ _))
  have he₁ : h₁.get? e = some ⟨cls, dd, .fields vs, sl⟩ := (hs₁.2.1 e hene).trans he
  have he₂ := Heap.get?_push_of_some (h := h₁) { cls := .type "traceback", dict := none, data := .fields ([head, .ref L, .none, rawInt L, .none] ++ (if pl.isEmpty then List.replicate 6 Value.none else pl)).toArray } he₁
  have hT₂ := Heap.get?_push_size h₁ (o := { cls := .type "traceback", dict := none, data := .fields ([head, .ref L, .none, rawInt L, .none] ++ (if pl.isEmpty then List.replicate 6 Value.none else pl)).toArray }) rfl
  have hTe : h₁.objs.size ≠ e := Nat.ne_of_gt (Heap.lt_size he₁)
  refine wp_setField he₂ hsz fun h₃ u₃ e₃ => ?_
  have tch : Tch [e] ((env :: outer).filterMap (·.frame)) h h₃ :=
    ((Tch.of_slotsOnly hs₁).trans (Tch.of_stays fun b o hb => Heap.get?_push_of_some _ hb)).trans (Tch.of_up1 u₃ (List.mem_singleton.mpr rfl))
  refine k h₃ h₁.objs.size tch (tch.ff (fun a ha o ho => ?_) hl) ?_ hTe e₃ ⟨_, _, (u₃.same _ hTe).trans hT₂, rfl, ?_⟩
  · obtain rfl := List.mem_singleton.mp ha
    rw [he] at ho; cases ho; exact ⟨_, rfl⟩
  · exact Heap.get?_none_of_le (Nat.le_of_eq hs₁.1.symm)
  · simp

theorem note_first {Q : Unit → Shared → Prop} (hfr : A.frames = some (env :: outer)) (hl : h.FunFrames base (env :: outer)) (hf : env.frame = some L)
    (he : h.get? e = some ⟨cls, dd, .fields vs, sl⟩) (h1 : vs[1]? = some .none)
    (k : ∀ h' T, Tch [e] ((env :: outer).filterMap (·.frame)) h h' → h'.FunFrames base (env :: outer) → h.get? T = none → T ≠ e →
      h'.get? e = some ⟨cls, dd, .fields (vs.setIfInBounds 1 (.ref T)), sl⟩ → TB h' T (rawInt L) → Q () ⟨h', g, d, t, os⟩) :
    wpAny M A (noteFrame (.ref e) env) Q E ⟨h, g, d, t, os⟩ := by
  unfold noteFrame
  simp only [hf]
  refine wpAny_bind (wpAny_field (s := ⟨h, g, d, t, os⟩) he rfl h1 ?_)
  rw [if_neg (by decide)]
  exact new_entry hfr hl hf he (Array.getElem?_eq_some_iff.mp h1).1 k

theorem note_next {T : Addr} {Q : Unit → Shared → Prop} (hfr : A.frames = some (env :: outer)) (hl : h.FunFrames base (env :: outer)) (hf : env.frame = some L)
    (he : h.get? e = some ⟨cls, dd, .fields vs, sl⟩) (h1 : vs[1]? = some (.ref T)) (hT : TB h T .none) (hTe : T ≠ e)
    (k : ∀ h' T', Tch [e, T] ((env :: outer).filterMap (·.frame)) h h' → h'.FunFrames base (env :: outer) → h.get? T' = none → T' ≠ e →
      h'.get? e = some ⟨cls, dd, .fields (vs.setIfInBounds 1 (.ref T')), sl⟩ → TB h' T' (rawInt L) → Q () ⟨h', g, d, t, os⟩) :
    wpAny M A (noteFrame (.ref e) env) Q E ⟨h, g, d, t, os⟩ := by
  have hTf := hT.fields
  obtain ⟨oT, ts, hT1, hT2, hT3⟩ := hT
  unfold noteFrame
  simp only [hf]
  refine wpAny_bind (wpAny_field (s := ⟨h, g, d, t, os⟩) he rfl h1 ?_)
  rw [if_pos (show (Value.ref T != Value.none) = true from by simp)]
  refine wpAny_bind (wpAny_field (s := ⟨h, g, d, t, os⟩) hT1 hT2 hT3 ?_)
  rw [if_neg (show ¬ ((Value.none == rawInt L) = true) from by simp [rawInt])]
  refine wpAny_bind (wpAny_setField (s := ⟨h, g, d, t, os⟩) hT1 hT2 (Array.getElem?_eq_some_iff.mp hT3).1 ?_)
  have u := Up1.update T h (Obj.mapFields (·.setIfInBounds 3 Value.none))
  have t1 : Tch [e, T] ((env :: outer).filterMap (·.frame)) h (h.update T (Obj.mapFields (·.setIfInBounds 3 Value.none))) := Tch.of_up1 u (by simp)
  have hl1 := t1.ff (fun a ha o ho => by
    rcases List.mem_cons.mp ha with rfl | ha
    · rw [he] at ho; cases ho; exact ⟨_, rfl⟩
    · obtain rfl := List.mem_singleton.mp ha; exact hTf o ho) hl
  refine new_entry hfr hl1 hf ((u.same e (Ne.symm hTe)).trans he) (Array.getElem?_eq_some_iff.mp h1).1 fun h' T' t2 f2 n2 ne2 e2 tb2 => ?_
  refine k h' T' (t1.trans (t2.mono (by simp))) f2 ?_ ne2 e2 tb2
  by_cases q : T' = T
  · subst q
    rw [Heap.get?_update_self _ hT1 (Obj.isFreed_of_fields (Obj.data_mapFields hT2 _))] at n2; cases n2
  · rw [← u.same T' q]; exact n2

theorem note_again {T : Addr} {Q : Unit → Shared → Prop} (hf : env.frame = some L) (he : h.get? e = some ⟨cls, dd, .fields vs, sl⟩) (h1 : vs[1]? = some (.ref T)) (hT : TB h T (rawInt L))
    (k : Q () ⟨h, g, d, t, os⟩) : wpAny M A (noteFrame (.ref e) env) Q E ⟨h, g, d, t, os⟩ := by
  obtain ⟨oT, ts, hT1, hT2, hT3⟩ := hT
  exact wpAny_noteFrame_inFlight (s := ⟨h, g, d, t, os⟩) hf he rfl h1 hT1 hT2 hT3 k

theorem set_flight {T : Addr} {fl : Value} {fr : Option Addr} {Q : Unit → Shared → Prop} (he : h.get? e = some ⟨cls, dd, .fields vs, sl⟩) (h1 : vs[1]? = some (.ref T)) (hT : TB h T fl)
    (k : ∀ h', Up1 T h h' → TB h' T (fr.elim .none fun f => rawInt f) → Q () ⟨h', g, d, t, os⟩) :
    wpAny M A (setFlight (.ref e) fr) Q E ⟨h, g, d, t, os⟩ := by
  obtain ⟨oT, ts, hT1, hT2, hT3⟩ := hT
  have hsz : 3 < ts.size := (Array.getElem?_eq_some_iff.mp hT3).1
  unfold setFlight
  refine wpAny_bind (wpAny_field (s := ⟨h, g, d, t, os⟩) he rfl h1 ?_)
  rw [if_pos (show (Value.ref T != Value.none) = true from by simp)]
  refine wpAny_setField (s := ⟨h, g, d, t, os⟩) hT1 hT2 hsz (k _ (Up1.update ..) ⟨_, _, Heap.get?_update_self _ hT1 (Obj.isFreed_of_fields (Obj.data_mapFields hT2 _)), Obj.data_mapFields hT2 _, ?_⟩)
  simp [hsz]

theorem set_flight0 {fr : Option Addr} {Q : Unit → Shared → Prop} (he : h.get? e = some ⟨cls, dd, .fields vs, sl⟩) (h1 : vs[1]? = some .none)
    (k : Q () ⟨h, g, d, t, os⟩) : wpAny M A (setFlight (.ref e) fr) Q E ⟨h, g, d, t, os⟩ := by
  unfold setFlight
  refine wpAny_bind (wpAny_field (s := ⟨h, g, d, t, os⟩) he rfl h1 ?_)
  rw [if_neg (by decide)]
  exact wpAny_pure k
end
end Mine
end
section
open PySem PySem.W PyProof.Rows
open PySem.Builtin._codecs
namespace Mine

section
variable {prog : Program} {w : World} {A : Around} {E : Value → Shared → Prop} {h : Heap} {g : Array GenState} {d : Drawn} {t : Nat} {os : OsState}

theorem hi_le (l : List Nat) : hi l ≤ l.length := by
  unfold hi
  have h1 := takeWhile_len_le (p := fun c => !decide (c < 256)) (l.drop (lo l))
  have h2 := lo_le l
  rw [List.length_drop] at h1
  omega

theorem gm_encode {M : Model} {s : Shared} {x : Str} {tk : Tok} {pl : Sem Bool} {Q : Value × List Value → Shared → Prop} (hq : Q (.builtin "str.encode", [.str x tk]) s) :
    wpAny M A (getMethod (.str x tk) "encode" pl) Q E s := by
  with_reducible exact GM.of (.str x tk) (typeIs_str _ _ _) F.slot_str_encode F.type_str_encode GM.noRef hq

theorem call_encode {x : Str} {tx te : Tok} {Q : Value → Shared → Prop} (hh : A.handled = none) (hx : x.length ≤ sizeLine)
    (hok : lo x.cps.toList = x.cps.toList.length → ∀ tk, Q (.bytes (x.cps.toList.map (·.toUInt8)).toArray t) ⟨h, g, d, tk, os⟩)
    (hbad : lo x.cps.toList < x.cps.toList.length → ∀ h' e T t1 t3 t4 t5 tk,
      MadeU h h' e T (Str.ofString "latin-1") x (Str.ofString "ordinal not in range(256)") (lo x.cps.toList) (hi x.cps.toList) t1 tx t3 t4 t5 → E (.ref e) ⟨h', g, d, tk, os⟩) :
    wpAny (model prog w) A (call (.builtin "str.encode") [.str x tx, .str (Str.ofString "latin-1") te]) Q E ⟨h, g, d, t, os⟩ := by
  refine wpAny_call (codeAny_call_builtin F.slot_str_encode.plain F.entry_str_encode (F.slot_str_encode.check _ _ _ _ _ _ _ _ (typeIs_str _ _ _) (F.args_str_encode_2 _ _) ?_))
  unfold Builtin.«str.encode»
  wp_walk
  rw [if_neg (by decide +kernel)]
  show wpAny _ _ (if (Str.ofString "latin-1").cps.contains 0 = true then _ else _) _ _ _
  rw [if_neg (by decide +kernel)]
  refine wpAny_pure ?_
  dsimp only [Option.getD_some]
  wp_step
  refine wpAny_of_eq (a := none) rfl ?_
  wp_step
  unfold encodeRoad
  rw [show (normalName (Str.ofString "latin-1")).toString = "latin_1" by decide +kernel]
  wp_step
  have hhi : hi x.cps.toList ≤ x.cps.toList.length := hi_le _
  have hlen : x.cps.toList.length = x.length := Array.length_toList
  have hsl : sizeLine = 16777216 := rfl
  refine wpAny_bind (enc_narrow hx (fun hlo => ?_) fun hlo Q' => ?_)
  · have hm : wpAny (model prog w) A.in1 (mkBytes (List.map (fun x => x.toUInt8) x.cps.toList).toArray) (fun v s' => v = .bytes (List.map (fun x => x.toUInt8) x.cps.toList).toArray t ∧ s' = ⟨h, g, d, t + 1, os⟩) (fun _ _ => False) ⟨h, g, d, t, os⟩ := by
      unfold mkBytes
      rw [if_neg (by simp only [List.size_toArray, List.length_map]; omega)]
      wp_walk
      exact ⟨rfl, rfl⟩
    refine wpAny_mono hm (fun v s' hv => ?_) (fun _ _ x => x.elim)
    obtain ⟨rfl, rfl⟩ := hv
    exact wpAny_pure (hok hlo _)
  · unfold raiseEncodeFault
    refine wpAny_bind ?_
    wp_delta
    refine wpAny_bind (wpAny_mkStr' ?_ (by decide +kernel))
    refine wpAny_bind (wpAny_pure ?_)
    refine wpAny_bind (wpAny_mkInt' (wpAny_bind (wpAny_mkInt' (wpAny_bind (wpAny_mkStr' ?_ (by decide +kernel))))))
    refine ue_call ⟨by omega, by omega⟩ ⟨by omega, by omega⟩ fun h' e T hm => ?_
    exact wpAny_raiseNew_none hh (hbad hlo _ _ _ _ _ _ _ _ hm)
end
end Mine
end
section
open PySem PySem.W PyProof.Rows
namespace Mine
theorem slot_md_get : Slot "member_descriptor" "__get__" "member_descriptor.__get__" :=
  .of (owner := "member_descriptor") (n := "__get__") (by rw [typeLookup_type, builtinLookup_eq_fast]; kernel_rfl) (by decide +kernel) (by decide +kernel) (by decide +kernel)
    (by first | exact .inl (by decide +kernel) | exact .inr (by decide +kernel)) (by rw [isSubtype_type]; kernel_rfl)
theorem slot_md_set : Slot "member_descriptor" "__set__" "member_descriptor.__set__" :=
  .of (owner := "member_descriptor") (n := "__set__") (by rw [typeLookup_type, builtinLookup_eq_fast]; kernel_rfl) (by decide +kernel) (by decide +kernel) (by decide +kernel)
    (by first | exact .inl (by decide +kernel) | exact .inr (by decide +kernel)) (by rw [isSubtype_type]; kernel_rfl)
theorem entry_md_get : entryFor table "member_descriptor.__get__" = some Builtin.«member_descriptor.__get__» := entryFor_of_tree (by kernel_rfl)
theorem args_md_get (a b c : Value) : argsOk "member_descriptor.__get__" ⟨[a, b, c], []⟩ := by unfold argsOk; kernel_rfl

theorem attr_ue : ExcAttrFacts "UnicodeEncodeError" where
  ga := .of (owner := "BaseException") (n := "__getattribute__") (by rw [typeLookup_type, builtinLookup_eq_fast]; kernel_rfl) (by decide +kernel) (by decide +kernel) (by decide +kernel)
    (by first | exact .inl (by decide +kernel) | exact .inr (by decide +kernel)) (by rw [isSubtype_type]; kernel_rfl)
  lkArgs := by rw [typeLookup_type, builtinLookup_eq_fast]; kernel_rfl
  sub := by rw [isSubtype_type]; kernel_rfl

structure MemFacts (name : Str) (id : String) (b : Builtin) : Prop where
  lk : typeLookup (.type "UnicodeEncodeError") name = pure (some (.builtin id))
  ty : typeOf (.builtin id) = pure (.type "member_descriptor")
  entry : entryFor table id = some b
  owner : (".".intercalate (id.cutAt '.').dropLast) = "UnicodeEncodeError"
  quiet : ∀ args, (Code.builtin id args).quiet = true

section
variable {prog : Program} {w : World} {A : Around} {E : Value → Shared → Prop} {h : Heap} {g : Array GenState} {d : Drawn} {t t' : Nat} {os : OsState} {a : Addr} {o : Obj} {v : Value} {name : Str} {id : String} {b : Builtin}

theorem mem_get {R : Result → Shared → Prop} (F : MemFacts name id b) (hx : h.get? a = some o) (hc : o.cls = .type "UnicodeEncodeError")
    (hb : ∀ (A : Around) (Q : Fin → Shared → Prop) (E : Value → Shared → Prop), Q (.done (.ret v)) ⟨h, g, d, t', os⟩ → wpAny (model prog w) A (b ⟨[.ref a], []⟩) Q E ⟨h, g, d, t, os⟩)
    (hq : R (.ok (.ret v)) ⟨h, g, d, t', os⟩) :
    codeAny (model prog w) A (.call (.builtin "member_descriptor.__get__") ⟨[.builtin id, .ref a, .type "UnicodeEncodeError"], []⟩) R ⟨h, g, d, t, os⟩ := by
  have hT : (⟨h, g, d, t, os⟩ : Shared).TypeIs (.ref a) "UnicodeEncodeError" := ⟨_, hx, hc⟩
  have hT5 : (⟨h, g, d, t, os⟩ : Shared).TypeIs (.builtin id) "member_descriptor" := F.ty
  have f8 : isSubtype (.type "UnicodeEncodeError") (.type (".".intercalate (id.cutAt '.').dropLast)) = pure true := by rw [F.owner]; exact ue_new.sub
  refine codeAny_call_builtin slot_md_get.plain entry_md_get (slot_md_get.check _ _ _ _ _ _ _ _ hT5 (args_md_get _ _ _) ?_)
  repeat (any_goals (first | assumption | wp_step))
  refine ⟨F.quiet _, codeAny_builtin F.entry (hb _ _ _ ?_)⟩
  exact hq

theorem mem_entry {tk : Tok} {Q : Fin → Shared → Prop} (F : MemFacts name id b) (hx : h.get? a = some o) (hc : o.cls = .type "UnicodeEncodeError")
    (hb : ∀ (A : Around) (Q : Fin → Shared → Prop) (E : Value → Shared → Prop), Q (.done (.ret v)) ⟨h, g, d, t', os⟩ → wpAny (model prog w) A (b ⟨[.ref a], []⟩) Q E ⟨h, g, d, t, os⟩)
    (hq : Q (.done (.ret v)) ⟨h, g, d, t', os⟩) :
    wpAny (model prog w) A (Builtin.«object.__getattribute__» ⟨[.ref a, .str name tk], []⟩) Q E ⟨h, g, d, t, os⟩ := by
  have hT : (⟨h, g, d, t, os⟩ : Shared).TypeIs (.ref a) "UnicodeEncodeError" := ⟨_, hx, hc⟩
  have hT5 : (⟨h, g, d, t, os⟩ : Shared).TypeIs (.builtin id) "member_descriptor" := F.ty
  have f4 := F.lk
  have f5 := F.ty
  have f6 := slot_md_get.lookup
  have f7 := slot_md_set.lookup
  repeat (any_goals (first | assumption | wp_step))
  refine mem_get F hx hc hb ?_
  repeat (any_goals (first | assumption | wp_step))

theorem mem_call {tk : Tok} {R : Result → Shared → Prop} (F : MemFacts name id b) (hx : h.get? a = some o) (hc : o.cls = .type "UnicodeEncodeError")
    (hb : ∀ (A : Around) (Q : Fin → Shared → Prop) (E : Value → Shared → Prop), Q (.done (.ret v)) ⟨h, g, d, t', os⟩ → wpAny (model prog w) A (b ⟨[.ref a], []⟩) Q E ⟨h, g, d, t, os⟩)
    (hq : R (.ok (.ret v)) ⟨h, g, d, t', os⟩) :
    codeAny (model prog w) A (.call (.builtin "BaseException.__getattribute__") ⟨[.ref a, .str name tk], []⟩) R ⟨h, g, d, t, os⟩ :=
  codeAny_call_builtin attr_ue.ga.plain PySem.F.entry_bexc_ga (attr_ue.ga.check _ _ _ _ _ _ _ _ (show (⟨h, g, d, t, os⟩ : Shared).TypeIs (.ref a) "UnicodeEncodeError" from ⟨_, hx, hc⟩) (PySem.F.args_bexc_ga _ _) (mem_entry F hx hc hb hq))

theorem mem_by {tk : Tok} {fill expr : Bool} {Q : Value → Shared → Prop} (F : MemFacts name id b) (hv : handedOut v = pure v) (hx : h.get? a = some o) (hc : o.cls = .type "UnicodeEncodeError")
    (hb : ∀ (A : Around) (Q : Fin → Shared → Prop) (E : Value → Shared → Prop), Q (.done (.ret v)) ⟨h, g, d, t', os⟩ → wpAny (model prog w) A (b ⟨[.ref a], []⟩) Q E ⟨h, g, d, t, os⟩)
    (hq : Q v ⟨h, g, d, t', os⟩) : wpAny (model prog w) A (getAttrBy (.ref a) (.str name tk) fill expr) Q E ⟨h, g, d, t, os⟩ := by
  have hT : (⟨h, g, d, t, os⟩ : Shared).TypeIs (.ref a) "UnicodeEncodeError" := ⟨_, hx, hc⟩
  have f2 := attr_ue.ga.lookup
  have f3 := attr_ue.ga.bind (.ref a)
  have hx0 : (expr && onTheHeap (Value.builtin "BaseException.__getattribute__")) = false := by cases expr <;> rfl
  repeat (any_goals (first | assumption | wp_step))
  refine mem_call F hx hc hb ?_
  repeat (any_goals (first | assumption | wp_step))

theorem mem_attr {expr : Bool} {Q : Value → Shared → Prop} (F : MemFacts name id b) (hx : h.get? a = some o) (hc : o.cls = .type "UnicodeEncodeError") (hv : handedOut v = pure v)
    (hb : ∀ (A : Around) (Q : Fin → Shared → Prop) (E : Value → Shared → Prop), Q (.done (.ret v)) ⟨h, g, d, t', os⟩ → wpAny (model prog w) A (b ⟨[.ref a], []⟩) Q E ⟨h, g, d, t + 1, os⟩)
    (hq : Q v ⟨h, g, d, t', os⟩) : wpAny (model prog w) A (getAttr (.ref a) name expr) Q E ⟨h, g, d, t, os⟩ := by
  unfold getAttr
  repeat (any_goals (first | assumption | with_reducible apply mem_by F hv hx hc hb | wp_step))

theorem mem_objectGet {get : Builtin.UnicodeEncodeError.Members → Value} {v0 v1 v2 v3 v4 v5 en ob re : Value} {i j : Int} {ti tj : Tok} {cls : Value} {dd : Option Addr} {sl : Array (Option Value)} {Q : Fin → Shared → Prop}
    (ho : h.get? a = some ⟨cls, dd, .fields #[v0, v1, v2, v3, v4, v5, en, ob, .int i ti, .int j tj, re], sl⟩) (hu : Builtin.UnicodeEncodeError.isUnset (get ⟨en, ob, i, j, re⟩) = false)
    (hq : Q (.done (.ret (get ⟨en, ob, i, j, re⟩))) ⟨h, g, d, t, os⟩) :
    wpAny (model prog w) A (Builtin.UnicodeEncodeError.objectGet id get ⟨[.ref a], []⟩) Q E ⟨h, g, d, t, os⟩ := by
  unfold Builtin.UnicodeEncodeError.objectGet
  refine wpAny_bind (wp_members ho ?_)
  dsimp only
  rw [hu]
  exact wpAny_pure hq
theorem mem_sizeGet {get : Builtin.UnicodeEncodeError.Members → Int} {v0 v1 v2 v3 v4 v5 en ob re : Value} {i j : Int} {ti tj : Tok} {cls : Value} {dd : Option Addr} {sl : Array (Option Value)} {Q : Fin → Shared → Prop}
    (ho : h.get? a = some ⟨cls, dd, .fields #[v0, v1, v2, v3, v4, v5, en, ob, .int i ti, .int j tj, re], sl⟩)
    (hq : Q (.done (.ret (.int (get ⟨en, ob, i, j, re⟩) t))) ⟨h, g, d, t + 1, os⟩) :
    wpAny (model prog w) A (Builtin.UnicodeEncodeError.sizeGet id get ⟨[.ref a], []⟩) Q E ⟨h, g, d, t, os⟩ := by
  unfold Builtin.UnicodeEncodeError.sizeGet
  refine wpAny_bind (wp_members ho ?_)
  unfold retInt
  exact wpAny_bind (wpAny_mkInt' (wpAny_pure hq))

theorem mf_encoding : MemFacts "encoding" "UnicodeEncodeError.encoding" Builtin.«UnicodeEncodeError.encoding» where
  lk := by rw [typeLookup_type, builtinLookup_eq_fast]; kernel_rfl
  ty := by kernel_rfl
  entry := entryFor_of_tree (by kernel_rfl)
  owner := by rw [show "UnicodeEncodeError.encoding".cutAt '.' = ["UnicodeEncodeError", "encoding"] by first | rfl | decide +kernel]; decide +kernel
  quiet := fun _ => Code.quiet_builtin _ (by decide +kernel)
theorem mf_object : MemFacts "object" "UnicodeEncodeError.object" Builtin.«UnicodeEncodeError.object» where
  lk := by rw [typeLookup_type, builtinLookup_eq_fast]; kernel_rfl
  ty := by kernel_rfl
  entry := entryFor_of_tree (by kernel_rfl)
  owner := by rw [show "UnicodeEncodeError.object".cutAt '.' = ["UnicodeEncodeError", "object"] by first | rfl | decide +kernel]; decide +kernel
  quiet := fun _ => Code.quiet_builtin _ (by decide +kernel)
theorem mf_reason : MemFacts "reason" "UnicodeEncodeError.reason" Builtin.«UnicodeEncodeError.reason» where
  lk := by rw [typeLookup_type, builtinLookup_eq_fast]; kernel_rfl
  ty := by kernel_rfl
  entry := entryFor_of_tree (by kernel_rfl)
  owner := by rw [show "UnicodeEncodeError.reason".cutAt '.' = ["UnicodeEncodeError", "reason"] by first | rfl | decide +kernel]; decide +kernel
  quiet := fun _ => Code.quiet_builtin _ (by decide +kernel)
theorem mf_start : MemFacts "start" "UnicodeEncodeError.start" Builtin.«UnicodeEncodeError.start» where
  lk := by rw [typeLookup_type, builtinLookup_eq_fast]; kernel_rfl
  ty := by kernel_rfl
  entry := entryFor_of_tree (by kernel_rfl)
  owner := by rw [show "UnicodeEncodeError.start".cutAt '.' = ["UnicodeEncodeError", "start"] by first | rfl | decide +kernel]; decide +kernel
  quiet := fun _ => Code.quiet_builtin _ (by decide +kernel)
theorem mf_end : MemFacts "end" "UnicodeEncodeError.end" Builtin.«UnicodeEncodeError.end» where
  lk := by rw [typeLookup_type, builtinLookup_eq_fast]; kernel_rfl
  ty := by kernel_rfl
  entry := entryFor_of_tree (by kernel_rfl)
  owner := by rw [show "UnicodeEncodeError.end".cutAt '.' = ["UnicodeEncodeError", "end"] by first | rfl | decide +kernel]; decide +kernel
  quiet := fun _ => Code.quiet_builtin _ (by decide +kernel)

abbrev UeAt (h : Heap) (a : Addr) (v0 v1 v2 v3 v4 v5 : Value) (en ob re : Str) (i j : Int) (t1 t2 t5 : Tok) : Prop :=
  h.get? a = some { cls := .type "UnicodeEncodeError", data := .fields #[v0, v1, v2, v3, v4, v5, .str en t1, .str ob t2, rawInt i, rawInt j, .str re t5] }

section
variable {v0 v1 v2 v3 v4 v5 : Value} {en ob re : Str} {i j : Int} {t1 t2 t5 : Tok} {expr : Bool} {Q : Value → Shared → Prop}
theorem at_encoding (ho : UeAt h a v0 v1 v2 v3 v4 v5 en ob re i j t1 t2 t5) (hq : Q (.str en t1) ⟨h, g, d, t + 1, os⟩) : wpAny (model prog w) A (getAttr (.ref a) "encoding" expr) Q E ⟨h, g, d, t, os⟩ :=
  mem_attr mf_encoding ho rfl rfl (fun A Q E hq => mem_objectGet ho rfl hq) hq
theorem at_object (ho : UeAt h a v0 v1 v2 v3 v4 v5 en ob re i j t1 t2 t5) (hq : Q (.str ob t2) ⟨h, g, d, t + 1, os⟩) : wpAny (model prog w) A (getAttr (.ref a) "object" expr) Q E ⟨h, g, d, t, os⟩ :=
  mem_attr mf_object ho rfl rfl (fun A Q E hq => mem_objectGet ho rfl hq) hq
theorem at_reason (ho : UeAt h a v0 v1 v2 v3 v4 v5 en ob re i j t1 t2 t5) (hq : Q (.str re t5) ⟨h, g, d, t + 1, os⟩) : wpAny (model prog w) A (getAttr (.ref a) "reason" expr) Q E ⟨h, g, d, t, os⟩ :=
  mem_attr mf_reason ho rfl rfl (fun A Q E hq => mem_objectGet ho rfl hq) hq
theorem at_start (ho : UeAt h a v0 v1 v2 v3 v4 v5 en ob re i j t1 t2 t5) (hq : Q (.int i (t + 1)) ⟨h, g, d, t + 2, os⟩) : wpAny (model prog w) A (getAttr (.ref a) "start" expr) Q E ⟨h, g, d, t, os⟩ :=
  mem_attr mf_start ho rfl rfl (fun A Q E hq => mem_sizeGet ho hq) hq
theorem at_end (ho : UeAt h a v0 v1 v2 v3 v4 v5 en ob re i j t1 t2 t5) (hq : Q (.int j (t + 1)) ⟨h, g, d, t + 2, os⟩) : wpAny (model prog w) A (getAttr (.ref a) "end" expr) Q E ⟨h, g, d, t, os⟩ :=
  mem_attr mf_end ho rfl rfl (fun A Q E hq => mem_sizeGet ho hq) hq
theorem at_args {t0 : Addr} (ho : UeAt h a (.ref t0) v1 v2 v3 v4 v5 en ob re i j t1 t2 t5) (hq : Q (.ref t0) ⟨h, g, d, t + 1, os⟩) : wpAny (model prog w) A (getAttr (.ref a) "args" expr) Q E ⟨h, g, d, t, os⟩ :=
  args_attr attr_ue ho rfl rfl rfl hq
end
end
end Mine
end
section
open PySem PySem.W PyProof.Rows
open PySem.Builtin PySem.Builtin.Str
namespace Mine

def cut20 (x : Str) : Str := ⟨(x.cps.toList.take 20).toArray⟩
theorem str_ext {x y : Str} (h : x.cps.toList = y.cps.toList) : x = y := by
  obtain ⟨a⟩ := x; obtain ⟨b⟩ := y
  obtain ⟨a⟩ := a; obtain ⟨b⟩ := b
  simp at h; rw [h]
theorem cut20_short {x : Str} (h : x.length ≤ 20) : cut20 x = x := str_ext (by
  show x.cps.toList.take 20 = _
  rw [List.take_of_length_le]
  rw [Array.length_toList]; exact h)
theorem cut20_sub (x : Str) : strSub x 0 20 = cut20 x := str_ext (by
  rw [StrLaws.strSub_toList]; rfl)
theorem cut20_len (x : Str) : (cut20 x).length ≤ 20 := by
  show ((x.cps.toList.take 20).toArray).size ≤ 20
  simp; omega

section
variable {prog : Program} {w : World} {A : Around} {E : Value → Shared → Prop} {h : Heap} {g : Array GenState} {d : Drawn} {t : Nat} {os : OsState}

def spec20 : Float.FormatSpec := { align := 60, precision := some 20 }
theorem parse20 : Float.parseFormatSpec (Str.ofString ".20").cps.toList "str" 60 = .ok spec20 := by kernel_rfl

theorem fmt20 {x : Str} {tx u : Tok} {Q : Fin → Shared → Prop} (hq : ∀ k tk, Q (.done (.ret (.str (cut20 x) k))) ⟨h, g, d, tk, os⟩) :
    wpAny (model prog w) A (Builtin.«str.__format__» ⟨[.str x tx, .str (Str.ofString ".20") u], []⟩) Q E ⟨h, g, d, t, os⟩ := by
  unfold Builtin.«str.__format__»
  wp_walk
  rw [show ((Manifest.find? "str").elim "str" fun x => x.tpName) = "str" by kernel_rfl, parse20]
  have hf : strField x spec20 "str" = (if decide (20 ≥ x.length) = true then .ok none else .ok (some (padded (strSub x 0 20) (if ((60 : Nat) == 62) = true then 0 - (strSub x 0 20).length else if ((60 : Nat) == 94) = true then (0 - (strSub x 0 20).length) / 2 else 0) ((0 - (strSub x 0 20).length) - (if ((60 : Nat) == 62) = true then 0 - (strSub x 0 20).length else if ((60 : Nat) == 94) = true then (0 - (strSub x 0 20).length) / 2 else 0)) 32))) := rfl
  have hp : ∀ y : Str, padded y 0 0 32 = y := fun y => str_ext (by simp [padded])
  have hf2 : strField x spec20 "str" = .ok (if x.length ≤ 20 then none else some (cut20 x)) := by
    rw [hf]
    simp only [show ((60 : Nat) == 62) = false from rfl, show ((60 : Nat) == 94) = false from rfl, Bool.false_eq_true, if_false, Nat.zero_sub, hp, cut20_sub]
    by_cases hx : x.length ≤ 20 <;> simp [hx]
  have hc : (do
      let f ← (.ok spec20 : Except String Float.FormatSpec)
      have f : Float.FormatSpec :=
        if (f.type.isNone && (Str.ofString ".20").cps.back? == some 0) = true then
          { fill := f.fill, align := f.align, sign := f.sign, noNeg0 := f.noNeg0, alt := f.alt, width := f.width,
            grouping := f.grouping, precision := f.precision, type := some 0 }
        else f
      if tooLong (f.width.getD 0) = true then pure none
        else do
          let r ← strField x f "str"
          pure (some r)) = (.ok (some (if x.length ≤ 20 then none else some (cut20 x))) : Except String (Option (Option Str))) := by
    show (do let r ← strField x spec20 "str"; pure (some r) : Except String (Option (Option Str))) = _
    rw [hf2]; rfl
  rw [hc]
  by_cases hx : x.length ≤ 20
  · rw [if_pos hx]
    wp_walk
    have := hq tx t
    rw [cut20_short hx] at this
    exact this
  · rw [if_neg hx]
    have hl := cut20_len x
    have hsl : sizeLine = 16777216 := rfl
    show wpAny _ _ (retStr (cut20 x)) _ _ _
    unfold retStr
    exact wpAny_bind (wpAny_mkStr' (wpAny_pure (hq _ _)) (by omega))

theorem fmtField20 {x : Str} {tx : Tok} {Q : Value → Shared → Prop} (hq : ∀ k tk, Q (.str (cut20 x) k) ⟨h, g, d, tk, os⟩) :
    wpAny (model prog w) A (formatField (.str x tx) (Str.ofString ".20")) Q E ⟨h, g, d, t, os⟩ := by
  have e : formatField (.str x tx) (Str.ofString ".20") = holding [.str x tx] (pyFormat (.str x tx) (Str.ofString ".20")) := by
    have hne : ((Str.ofString ".20").length == 0) = false := by decide +kernel
    unfold formatField
    simp only [hne, Bool.false_eq_true, if_false] <;> rfl
  rw [e]
  refine wpAny_holding ?_
  unfold pyFormat
  refine wpAny_bind (wpAny_mkStr' ?_ (by decide +kernel))
  refine wpAny_bind (m := callSpecial? (.str x tx) (Str.ofString "__format__") [.str (Str.ofString ".20") t]) (wpAny_callSpecial?_slot (name := Str.ofString "__format__") (typeIs_str _ _ _) F.slot_str_format (wpAny_call (codeAny_call_builtin F.slot_str_format.plain F.entry_str_format
    (F.slot_str_format.check _ _ _ _ _ _ _ _ (typeIs_str _ _ _) (F.args_str_format_2 _ _) (fmt20 fun k tk => ?_)))))
  show wpAny _ _ _ _ _ _
  dsimp only
  exact wpAny_bind (wpAny_isInstance (T := "str") (b := true) (typeIs_str _ _ _) isSubtype_str_str (wpAny_pure (hq _ _)))

theorem FmtVal_r20 {env : Env} {value : PySem.Expr} {pos pos2 : Pos} {k : Nat} {Q : Value → Shared → Prop} {s : Shared}
    (hv : wpAny (model prog w) A (eval value env) (fun v s₁ => ∃ x tx, v = .str x tx ∧ (reprText x).length ≤ sizeLine ∧ ∀ k' tk, Q (.str (cut20 (reprText x)) k') { s₁ with toks := tk }) E s) :
    wpAny (model prog w) A (eval (.FormattedValue value 114 (some (.Constant (.str ".20") k pos2)) pos) env) Q E s := by
  rw [arm_eval_FormattedValue]
  refine wpAny_bind (wpAny_mono hv (fun v s₁ h₁ => ?_) fun _ _ x => x)
  obtain ⟨x, tx, rfl, hl, hq⟩ := h₁
  refine wpAny_bind (wpAny_standAt ?_)
  refine wpAny_bind (wpAny_holding ?_)
  show wpAny _ _ (pyReprObj (.str x tx)) _ _ _
  refine pyReprObj_str ?_ hl
  show wpAny _ _ (do
    let r ← holding [Value.str (reprText x) s₁.toks] (eval (.Constant (.str ".20") k pos2) env)
    match r with
    | .str sp _ => (do standAt pos; formatField (Value.str (reprText x) s₁.toks) sp)
    | _ => unsupported "internal:format-spec") Q E _
  refine wpAny_bind (wpAny_holding (Calls.Constant_str ?_))
  dsimp only
  exact wpAny_bind (wpAny_standAt (fmtField20 fun k' tk => hq k' tk))
end
end Mine
end
section
open PySem PySem.W PyProof.Rows
open PySem.Builtin PySem.Builtin.Str
namespace Mine

theorem entry_unchain : entryFor table "proto.unchain" = some Builtin.«proto.unchain» := entryFor_of_tree (by kernel_rfl)

section
variable {prog : Program} {w : World} {A : Around} {E : Value → Shared → Prop} {h : Heap} {g : Array GenState} {d : Drawn} {t : Nat} {os : OsState} {env : Env}

theorem raiseNew_in {e e1 : Addr} {cls cls1 : Value} {dd dd1 : Option Addr} {sl sl1 : Array (Option Value)} {vs vs1 : Array Value} {α : Type} {Q : α → Shared → Prop}
    (hh : A.handled = some (.ref e1)) (hne : e ≠ e1) (he : h.get? e = some ⟨cls, dd, .fields vs, sl⟩) (h2 : 2 < vs.size)
    (he1 : h.get? e1 = some ⟨cls1, dd1, .fields vs1, sl1⟩) (h12 : vs1[2]? = some .none)
    (hE : ∀ h', Up1 e h h' → h'.get? e = some ⟨cls, dd, .fields (vs.setIfInBounds 2 (.ref e1)), sl⟩ → E (.ref e) ⟨h', g, d, t, os⟩) :
    wpAny (model prog w) A (raiseNew (.ref e) : Sem α) Q E ⟨h, g, d, t, os⟩ := by
  unfold raiseNew
  refine wpAny_bind (wpAny_handled ?_)
  rw [hh]
  dsimp only
  rw [if_pos (by simp [Ne.symm hne])]
  refine wpAny_bind (wpAny_holding (wpAny_runValue (codeAny_builtin entry_unchain ?_)))
  unfold Builtin.«proto.unchain»
  dsimp only
  refine wpAny_bind (wpAny_field (s := ⟨h, g, d, t, os⟩) he1 rfl h12 ?_)
  rw [if_pos (show (Value.none == Value.none) = true from rfl)]
  refine wpAny_pure ?_
  dsimp only
  refine wpAny_bind ?_
  show wpAny (model prog w) A (setField (.ref e) 2 (.ref e1)) _ _ _
  exact wp_setField he h2 fun h' u e' => wpAny_throw (hE h' u e')

theorem raise_from_none {e1 : Addr} {x c : Sem Value} {Q : Flow → Shared → Prop} {s : Shared}
    (hh : A.handled = some (.ref e1)) (hc : ∀ (s : Shared) (Q : Value → Shared → Prop), Q .none s → wpAny (model prog w) A c Q E s)
    (hx : wpAny (model prog w) A x (fun v s₁ => ∃ (e t : Addr) (en ob re : Str) (i j : Int) (t1 t2 t5 : Tok) (cls1 : Value) (dd1 : Option Addr) (sl1 : Array (Option Value)) (vs1 : Array Value), v = .ref e ∧ e ≠ e1 ∧ s₁.heap.get? e = some (ueObj t .none .none .none (.bool false) en ob re i j t1 t2 t5) ∧
      s₁.heap.get? e1 = some ⟨cls1, dd1, .fields vs1, sl1⟩ ∧ vs1[2]? = some .none ∧
      ∀ h', Up1 e s₁.heap h' → h'.get? e = some (ueObj t .none (.ref e1) .none (.bool true) en ob re i j t1 t2 t5) → E (.ref e) { s₁ with heap := h' }) E s) :
    wpAny (model prog w) A (raiseStmt env (some x) (some c)) Q E s := by
  unfold raiseStmt
  refine wpAny_bind (wpAny_mono hx (fun v s₁ h₁ => ?_) fun _ _ x => x)
  obtain ⟨e, t, en, ob, re, i, j, t1, t2, t5, cls1, dd1, sl1, vs1, rfl, hne, he, he1, h12, hE⟩ := h₁
  obtain ⟨hp, g, d, tk, os⟩ := s₁
  refine wpAny_bind (wpAny_holding (hc _ _ ?_))
  refine wpAny_bind (wpAny_pure ?_)
  dsimp only
  have hsub := ue_raise.isExc
  have hmeta := ue_raise.plainMeta
  refine wpAny_bind (wpAny_holding ?_)
  unfold excFromValue isExcClass
  have hT : (⟨hp, g, d, tk, os⟩ : Shared).TypeIs (.ref e) "UnicodeEncodeError" := ⟨_, he, rfl⟩
  wp_step
  wp_step
  iterate 12 (first | with_reducible refine wpAny_loadPart_at he ?_ | wp_step)
  rw [if_pos (show (Value.none == Value.none) = true from rfl)]
  refine wpAny_bind (wpAny_pure ?_)
  refine wpAny_bind (wp_setField he (by simp) fun h3 u3 e3 => ?_)
  replace e3 : h3.get? e = some (ueObj t .none .none .none (.bool false) en ob re i j t1 t2 t5) := e3
  refine wpAny_bind (wp_setField e3 (by simp) fun h4 u4 e4 => ?_)
  replace e4 : h4.get? e = some (ueObj t .none .none .none (.bool true) en ob re i j t1 t2 t5) := e4
  have hT4 : (⟨h4, g, d, tk, os⟩ : Shared).TypeIs (.ref e) "UnicodeEncodeError" := ⟨_, e4, rfl⟩
  have u := u3.trans u4
  unfold isType loadHead
  iterate 5 (first | with_reducible refine wpAny_loadPart_at e4 ?_ | wp_step)
  unfold raisedInstance
  iterate 10 (first | with_reducible refine wpAny_loadPart_at e4 ?_ | wp_step)
  refine wpAny_bind (wpAny_field (s := ⟨h4, g, d, tk, os⟩) e4 rfl (x := .none) rfl ?_)
  rw [if_neg (show ¬ ((Value.none != Value.none) = true) by decide)]
  refine wpAny_pure ?_
  refine raiseNew_in hh hne e4 (by simp) ((u.same _ (Ne.symm hne)).trans he1) h12 fun h5 u5 e5 => ?_
  exact hE h5 (u.trans u5) e5

theorem habit_str {M : Model} {s : Shared} {row : String} {x : Str} {k : Tok} {Q : Value → Shared → Prop} (hx : x.length ≤ sizeLine) (hq : ∀ k tk, Q (.str x k) { s with toks := tk }) : wpAny M A (habitSame row (.str x k)) Q E s :=
  wpAny_habitSame_str (hq _ s.toks) (hq _ _) hx
theorem fmtField_str {s : Shared} {x : Str} {k : Tok} {Q : Value → Shared → Prop} (hx : x.length ≤ sizeLine) (hq : ∀ k tk, Q (.str x k) { s with toks := tk }) : wpAny (model prog w) A (formatField (.str x k) Str.empty) Q E s :=
  wpAny_formatField_str (hq _ s.toks) (hq _ _) hx
theorem FmtVal_s {s : Shared} {value : PySem.Expr} {pos : Pos} {Q : Value → Shared → Prop}
    (hv : wpAny (model prog w) A (eval value env) (fun v s₁ => ∃ x tx, v = .str x tx ∧ x.length ≤ sizeLine ∧ ∀ k tk, Q (.str x k) { s₁ with toks := tk }) E s) :
    wpAny (model prog w) A (eval (.FormattedValue value 115 none pos) env) Q E s := by
  refine wpAny_FormattedValue_s (wpAny_mono hv (fun v s₁ h₁ => ?_) fun _ _ x => x)
  obtain ⟨x, tx, rfl, hx, hq⟩ := h₁
  show wpAny _ _ (habitSame "fstring-hands-on-the-str" (.str x tx)) _ _ _
  exact habit_str hx fun k tk => fmtField_str hx fun k2 tk2 => hq k2 tk2
end
end Mine
end
section
open PySem PySem.W PyProof.Rows
open PySem.Builtin PySem.Builtin.Str
namespace Mine

abbrev pw : Program := PySem.Challenge.pw_km0023_08
def stmtAt (i : Nat) : Stmt := (pw.main.body[i]?).getD (.Pass ⟨0, 0, 0, 0⟩)
def bodyOf : Stmt → List Stmt
  | .FunctionDef _ _ body _ _ _ _ _ _ _ => body
  | _ => []
def scopeOf : Stmt → Scope
  | .FunctionDef _ _ _ _ _ _ scope _ _ _ => scope
  | _ => default
def paramsOf : Stmt → Arguments
  | .FunctionDef _ args _ _ _ _ _ _ _ _ => args
  | _ => default
def encBody : List Stmt := bodyOf (stmtAt 1)
def encScope : Scope := scopeOf (stmtAt 1)
def encParams : Arguments := paramsOf (stmtAt 1)
abbrev envE (L f : Addr) (cd : Value) : Env := envOf (Str.ofString "_encode") encScope L f cd

structure Names (B : Heap) : Prop where
  ex : ∃ mg mb, B.Ns mainGlobals mg ∧ mg "UnicodeEncodeError" = none ∧ B.Ns builtinsNs mb ∧ mb "UnicodeEncodeError" = some (.type "UnicodeEncodeError")

def mid (x : Str) (a b : Nat) : Str := ⟨((x.cps.toList.drop a).take (b - a)).toArray⟩
theorem slice_mid (x : Str) {a b : Nat} (hab : a ≤ b) (hb : b ≤ x.length) : Txt.slice x (some (a : Int)) (some (b : Int)) = mid x a b := StrLaws.sliceText_nat x hab hb
theorem lo_le_hi (l : List Nat) : lo l ≤ hi l := by unfold hi; omega
theorem mid_len (x : Str) (a b : Nat) : (mid x a b).length ≤ x.length := by
  show ((x.cps.toList.drop a).take (b - a)).toArray.size ≤ x.cps.size
  simp; omega
theorem mid_mem {x : Str} {a b c : Nat} (h : c ∈ (mid x a b).cps.toList) : c ∈ x.cps.toList := by
  have : c ∈ (x.cps.toList.drop a).take (b - a) := by simpa [mid] using h
  exact List.mem_of_mem_drop (List.mem_of_mem_take this)
def Fine (x : Str) : Prop := x.length ≤ 100000 ∧ ∀ c ∈ x.cps.toList, c < 16 ^ 8
theorem Fine.mid {x : Str} (h : Fine x) (a b : Nat) : Fine (mid x a b) := ⟨Nat.le_trans (mid_len x a b) h.1, fun c hc => h.2 c (mid_mem hc)⟩

def encWords (n x : Str) : Str :=
  Str.empty ++ Txt.title n ++ Str.ofString " (" ++ cut20 (reprText (mid x (lo x.cps.toList) (hi x.cps.toList))) ++ Str.ofString ") is not valid Latin-1. Use " ++ n ++
    Str.ofString ".encode('utf-8') if you want to send it encoded in UTF-8."

section
variable {prog : Program} {w : World} {A : Around} {E : Value → Shared → Prop} {h : Heap} {g : Array GenState} {d : Drawn} {tk : Nat} {os : OsState} {B S : Heap} {L f : Addr} {cd : Value} {outer : List Env} {m : Str → Option Value} {Q : Flow → Shared → Prop}
  {x n : Str} {tx tn : Tok}

structure Inv (B S : Heap) (outer : List Env) (L : Addr) (m : Str → Option Value) (h : Heap) : Prop where
  F : Fr B L h m
  K : Tch [] (outer.filterMap (·.frame)) S h

structure Und (B S : Heap) (outer : List Env) (L : Addr) : Prop where
  bs : B.StaysIn S
  bo : ∀ a ∈ outer.filterMap (·.frame), B.get? a = none
  sl : S.get? L = none
  so : S.FunFrames noHeap outer

theorem Und.bn (U : Und B S outer L) {a : Addr} (e : S.get? a = none) : B.get? a = none := by
  cases q : B.get? a with
  | none => rfl
  | some o => have := U.bs a o q; rw [e] at this; cases this
theorem Und.bl (U : Und B S outer L) : B.get? L = none := U.bn U.sl

theorem Inv.ff {env : Env} {h : Heap} (U : Und B S outer L) (hk : env.scope.kind ≠ .module) (hf : env.frame = some L) (I : Inv B S outer L m h) : h.FunFrames noHeap (env :: outer) :=
  Heap.FunFrames.cons hk hf I.F.ns (noHeap_get L) (I.K.ff (fun a ha => nomatch ha) U.so)
theorem Inv.fresh {h : Heap} (I : Inv B S outer L m h) {a : Addr} (e : h.get? a = none) : S.get? a = none := I.K.none e

theorem Inv.step {h h' : Heap} {xs : List Addr} (U : Und B S outer L) (I : Inv B S outer L m h) (x : Tch xs (L :: outer.filterMap (·.frame)) h h')
    (hx : ∀ a ∈ xs, S.get? a = none ∧ ∀ o, h.get? a = some o → ∃ vs, o.data = .fields vs) : Inv B S outer L m h' := by
  have hLx : L ∉ xs := fun q => by
    obtain ⟨o, es, ep, ho, hd, _⟩ := I.F.ns
    obtain ⟨vs, hv⟩ := (hx L q).2 o ho
    rw [hd] at hv; cases hv
  refine ⟨⟨x.ns hLx I.F.ns, fun b o hb => x.keep b o (I.F.keep b o hb) (fun q => ?_) (fun q => ?_), I.F.above⟩, I.K.fresh (xs := L :: xs) ⟨fun b o eb n m' => x.keep b o eb (fun q => n (.tail _ q)) (fun q => ?_), fun b o eb n m' => x.slot b o eb (fun q => n (.tail _ q)) (.tail _ m')⟩ (fun a ha => ?_)⟩
  · rw [U.bn (hx b q).1] at hb; cases hb
  · rcases List.mem_cons.mp q with rfl | q
    · rw [U.bl] at hb; cases hb
    · rw [U.bo b q] at hb; cases hb
  · rcases List.mem_cons.mp q with rfl | q
    · exact n (.head _)
    · exact m' q
  · rcases List.mem_cons.mp ha with rfl | ha
    · exact U.sl
    · exact (hx a ha).1
theorem Inv.stays {h h' : Heap} (U : Und B S outer L) (I : Inv B S outer L m h) (k : h.StaysIn h') : Inv B S outer L m h' :=
  I.step U (xs := []) (Tch.of_stays k) fun a ha => nomatch ha
theorem Inv.up1 {h h' : Heap} {a : Addr} (U : Und B S outer L) (I : Inv B S outer L m h) (u : Up1 a h h') (ha : S.get? a = none) (hv : ∀ o, h.get? a = some o → ∃ vs, o.data = .fields vs) : Inv B S outer L m h' :=
  I.step U (xs := [a]) (Tch.of_up1 u (List.mem_singleton.mpr rfl)) fun b hb => by rw [List.mem_singleton.mp hb]; exact ⟨ha, hv⟩
theorem Inv.store {h h' : Heap} {m' : Str → Option Value} (U : Und B S outer L) (I : Inv B S outer L m h) (hn : h'.Ns L m') (hs : Heap.SameBut L h h') : Inv B S outer L m' h' :=
  ⟨I.F.set hn hs, I.K.fresh (xs := [L]) ⟨fun b o e n _ => (hs.2 b fun q => n (by rw [q]; exact .head _)).trans e, fun b o e n _ => ⟨o.slots, (hs.2 b fun q => n (by rw [q]; exact .head _)).trans e⟩⟩ (fun a ha => by rw [List.mem_singleton.mp ha]; exact U.sl)⟩

theorem ue_notTuple : isSubtype (.type ((Manifest.find? "UnicodeEncodeError").elim "type" fun x => x.metatype)) (.type "tuple") = pure false := by
  rw [show ((Manifest.find? "UnicodeEncodeError").elim "type" fun x => x.metatype) = "type" from by kernel_rfl, isSubtype_type]; kernel_rfl

theorem ld_uee {A : Around} {s : Shared} {pos : Pos} {Q : Value → Shared → Prop} (F : Fr B L s.heap m) (N : Names B) (hq : Q (.type "UnicodeEncodeError") s) :
    wpAny (model prog w) A (eval (.Name "UnicodeEncodeError" pos) (envE L f cd)) Q E s := by
  obtain ⟨mg, mb, hg, hmiss, hb, hv⟩ := N.ex
  exact ld_builtin_at F hg hmiss hb hv hq

theorem evalArgs_star {A : Around} {s : Shared} {env : Env} {fv : Value} {e : PySem.Expr} {rest : List PySem.Expr} {pos : Pos} {Q : Args → Shared → Prop}
    (hq : wpAny (model prog w) A (spliced (backTo pos (starEach (e :: rest) env))) (fun vs s' => Q ⟨vs, []⟩ s') E s)
    (he : starEach (e :: rest) env = (false, eval e env) :: starEach rest env := by rfl) :
    wpAny (model prog w) A (evalArgs fv true (backTo pos (starEach (e :: rest) env)) []) Q E s := by
  rw [he] at hq ⊢
  exact Calls.evalArgs_plain hq

theorem enc_flight {e1 e2 t7 : Addr} {en re : Str} {i j : Int} {q1 q2 q5 p3 p4 : Tok} {n0 : Str} {pos : Pos}
    (hfr : A.frames = some outer) (U : Und B S outer L) (I8 : Inv B S outer L m h) (hlo : (envE L f cd).kindOf n0 = some .local) (se2 : S.get? e2 = none)
    (ex8 : h.get? e2 = some (ueObj t7 .none (.ref e1) .none (.bool true) en x re i j q1 q2 q5))
    (tu8 : h.get? t7 = some { cls := .type "tuple", data := .seq (ueArgs en x re i j q1 q2 p3 p4 q5).toArray }) (tF : t7 ∉ (envE L f cd :: outer).filterMap (·.frame))
    (hE : ∀ h' T m' tk, Inv B S outer L m' h' → UeAt h' e2 (.ref t7) (.ref T) (.ref e1) .none (.bool true) .none en x re i j q1 q2 q5 → T ≠ e2 → S.get? T = none → TB h' T (rawInt L) →
      h'.get? t7 = some { cls := .type "tuple", data := .seq (ueArgs en x re i j q1 q2 p3 p4 q5).toArray } → E (.ref e2) ⟨h', g, d, tk, os⟩) :
    AsSuiteRaised (model prog w) ((A.deeper (envE L f cd)).mark (some (.ref e1))) (envE L f cd) n0 pos (notedBy (model prog w) ((A.deeper (envE L f cd)).mark (some (.ref e1))) (envE L f cd) (cameBackBy (model prog w) (A.deeper (envE L f cd)) (envE L f cd) E))
      (.ref e2) ⟨h, g, d, tk, os⟩ := by
  have hkm : (envE L f cd).scope.kind ≠ .module := by show encScope.kind ≠ .module; decide
  have hte : t7 ≠ e2 := fun q => by rw [q, ex8] at tu8; have := congrArg Obj.data (Option.some.inj tu8); cases this
  have hfr'' : ((A.deeper (envE L f cd)).mark (some (.ref e1))).frames = some (envE L f cd :: outer) := Around.frames_deeper hfr
  refine note_first hfr'' (I8.ff U hkm rfl) rfl ex8 rfl fun h9 Tb2 T9 hl9 hTn9 hTe9 ex9 tb9 => ?_
  have hfld8 : ∀ o, h.get? e2 = some o → ∃ vs, o.data = .fields vs := fun o ho => by rw [ex8] at ho; cases ho; exact ⟨_, rfl⟩
  have I9 := I8.step U T9 (by intro a ha; rw [List.mem_singleton.mp ha]; exact ⟨se2, hfld8⟩)
  replace ex9 : UeAt h9 e2 (.ref t7) (.ref Tb2) (.ref e1) .none (.bool true) .none en x re i j q1 q2 q5 := ex9
  have tu9 := T9.keep t7 _ tu8 (by simpa using hte) tF
  refine wpAny_nameGoes (env := envE L f cd) hlo I9.F.ns (by rfl) fun h10 m10 hn10 hs10 => ?_
  have I10 := I9.store U hn10 hs10
  have notL : ∀ {h : Heap} {m : Str → Option Value} {a : Addr} {o : Obj}, h.Ns L m → h.get? a = some o → (∀ es n, o.data ≠ .dict es n) → a ≠ L := fun hns ho hd' q => by
    obtain ⟨o', es, ep, ho', hd2, _⟩ := hns
    rw [q, ho'] at ho; cases ho; exact hd' _ _ hd2
  have ex10 := (hs10.2 e2 (notL I9.F.ns ex9 (fun _ _ q => by cases q))).trans ex9
  have tu10 := (hs10.2 t7 (notL I9.F.ns tu9 (fun _ _ q => by cases q))).trans tu9
  have tb10 : TB h10 Tb2 (rawInt L) := by
    obtain ⟨oT, ts, a1, a2, a3⟩ := tb9
    exact ⟨oT, ts, (hs10.2 Tb2 (notL I9.F.ns a1 (fun _ _ q => by rw [a2] at q; cases q))).trans a1, a2, a3⟩
  have sT2 := I8.fresh hTn9
  dsimp only
  unfold PySem.passOn
  refine wpAny_bind (wpAny_field ex10 rfl (x := .ref Tb2) rfl ?_)
  rw [if_neg (show ¬ ((Value.ref Tb2 == Value.none) = true) by simp)]
  refine wpAny_bind (set_flight ex10 (T := Tb2) rfl tb10 fun h11 u11 tb11 => wpAny_throw ?_)
  have tT : t7 ≠ Tb2 := fun q => by
    obtain ⟨oT, ts, a1, a2, _⟩ := tb10
    rw [← q, tu10] at a1; cases a1; cases a2
  have I11 := I10.up1 U u11 sT2 tb10.fields
  have ex11 := (u11.same e2 (Ne.symm hTe9)).trans ex10
  have tu11 := (u11.same t7 tT).trans tu10
  refine note_again (T := Tb2) rfl ex11 rfl tb11 ?_
  refine wpAny_bind (wpAny_field ex11 rfl (x := .ref Tb2) rfl ?_)
  rw [if_neg (show ¬ ((Value.ref Tb2 == Value.none) = true) by simp)]
  refine set_flight ex11 (T := Tb2) rfl tb11 fun h12 u12 tb12 => ?_
  exact hE h12 Tb2 _ _ (I11.up1 U u12 sT2 tb11.fields) ((u12.same e2 (Ne.symm hTe9)).trans ex11) hTe9 sT2 tb12 ((u12.same t7 tT).trans tu11)

theorem enc_body (hfr : A.frames = some outer) (hh : A.handled = none) (U : Und B S outer L) (I : Inv B S outer L m h) (N : Names B)
    (hd : m "data" = some (.str x tx)) (hn : m "name" = some (.str n tn)) (hx : Fine x) (hnl : n.length ≤ 100000)
    (hok : lo x.cps.toList = x.cps.toList.length → ∀ tk tk', Q (.ret (.bytes (x.cps.toList.map (·.toUInt8)).toArray tk')) ⟨h, g, d, tk, os⟩)
    (hbad : lo x.cps.toList < x.cps.toList.length → ∀ h' e t T cx t1 t2 t3 t4 t5 tk, (∃ m', Inv B S outer L m' h') → S.get? e = none → S.get? t = none →
      UeAt h' e (.ref t) (.ref T) cx .none (.bool true) .none (Str.ofString "latin-1") x (encWords n x) (lo x.cps.toList) (hi x.cps.toList) t1 t2 t5 → T ≠ e → S.get? T = none → TB h' T (rawInt L) →
      h'.get? t = some { cls := .type "tuple", data := .seq (ueArgs (Str.ofString "latin-1") x (encWords n x) (lo x.cps.toList) (hi x.cps.toList) t1 t2 t3 t4 t5).toArray } → E (.ref e) ⟨h', g, d, tk, os⟩) :
    wpAny (model prog w) (A.deeper (envE L f cd)) (execs encBody (envE L f cd)) Q E ⟨h, g, d, tk, os⟩ := by
  have hsl : sizeLine = 16777216 := rfl
  refine wpAny_execs_cons (wpAny_Try_except ?_)
  refine wpAny_execs_cons (wpAny_Return_some (MethodCall_ (ld I.F hd (gm_encode ?_))))
  refine callWith_method1 ?_
  refine spliced_more (Calls.Constant_str (spliced_none ?_))
  refine call_encode hh (by have := hx.1; omega) (fun hlo tk' => ?_) (fun hlo h1 e1 t0 q1 q3 q4 q5 tk1 M1 => ?_)
  · exact hok hlo _ _
  · have hfr' : (A.deeper (envE L f cd)).frames = some (envE L f cd :: outer) := Around.frames_deeper hfr
    have hkm : (envE L f cd).scope.kind ≠ .module := by show encScope.kind ≠ .module; decide
    have I1 := I.stays U M1.keeps
    have se1 := I.fresh M1.new
    have st0 := I.fresh M1.newT
    refine note_first hfr' (I1.ff U hkm rfl) rfl M1.exc rfl fun h2 Tb1 T2 hl2 hTn2 hTe2 ex2 tb2 => ?_
    have I2 := I1.step U T2 (by intro a ha; rw [List.mem_singleton.mp ha]; exact ⟨se1, fun o ho => by rw [M1.exc] at ho; cases ho; exact ⟨_, rfl⟩⟩)
    have sT1 := I1.fresh hTn2
    refine set_flight ex2 (T := Tb1) rfl tb2 fun h3 u3 tb3 => ?_
    have I3 := I2.up1 U u3 sT1 tb2.fields
    have ex3 := (u3.same e1 (Ne.symm hTe2)).trans ex2
    replace ex3 : UeAt h3 e1 (.ref t0) (.ref Tb1) .none .none (.bool false) .none (Str.ofString "latin-1") x (Str.ofString "ordinal not in range(256)") (lo x.cps.toList) (hi x.cps.toList) q1 tx q5 := ex3
    refine wpAny_handleBy_builtin_as (X := "UnicodeEncodeError") (T := "UnicodeEncodeError") (b := true) ue_raise.isExc ue_notTuple ue_new.sub (ld_uee I3.F N ⟨rfl, ⟨_, ex3, rfl⟩, ?_⟩)
    rw [if_pos rfl]
    refine set_flight ex3 (T := Tb1) rfl tb3 fun h4 u4 tb4 => ?_
    have I4 := I3.up1 U u4 sT1 tb3.fields
    have ex4 := (u4.same e1 (Ne.symm hTe2)).trans ex3
    refine wpAny_storeName_local (s := ⟨h4, g, d, _, os⟩) (env := envE L f cd) (by rfl) I4.F.ns (fun h5 hn5 hs5 => ?_) (by rfl)
    have I5 := I4.store U hn5 hs5
    have e1L : e1 ≠ L := fun q => by
      obtain ⟨o, es, ep, ho, hd', _⟩ := I4.F.ns
      rw [← q, ex4] at ho; cases ho; cases hd'
    have ex5 : UeAt h5 e1 (.ref t0) (.ref Tb1) .none .none (.bool false) .none (Str.ofString "latin-1") x (Str.ofString "ordinal not in range(256)") (lo x.cps.toList) (hi x.cps.toList) q1 tx q5 := (hs5.2 e1 e1L).trans ex4
    refine wpAny_execs_cons ?_
    rw [arm_exec_Raise]
    refine wpAny_bind (wpAny_standAt ?_)
    refine raise_from_none (e1 := e1) rfl (fun s Q hq => wpAny_bind (wpAny_Constant_none (wpAny_bind (wpAny_standAt (wpAny_pure hq))))) (wpAny_bind ?_)
    refine wpAny_Call_ofName (ld_uee I5.F N (callWith_excType (by rfl) (evalArgs_star ?_)))
    refine spliced_more (Attribute_name (ld I5.F (by rfl) (at_encoding ex5 ?_)))
    refine spliced_more (Attribute_name (ld I5.F (by rfl) (at_object ex5 ?_)))
    refine spliced_more (Attribute_name (ld I5.F (by rfl) (at_start ex5 ?_)))
    refine spliced_more (Attribute_name (ld I5.F (by rfl) (at_end ex5 ?_)))
    refine spliced_more (wpAny_JoinedStr ?_)
    have hn5' : (fun y => if y = Str.ofString "err" then some (Value.ref e1) else m y) (Str.ofString "name") = some (.str n tn) := (if_neg (by decide)).trans hn
    have hd5' : (fun y => if y = Str.ofString "err" then some (Value.ref e1) else m y) (Str.ofString "data") = some (.str x tx) := (if_neg (by decide)).trans hd
    have hlx : x.cps.toList.length = x.length := Array.length_toList
    have hhi := hi_le x.cps.toList
    have hr := StrLaws.reprText_len (mid x (lo x.cps.toList) (hi x.cps.toList)) (hx.mid _ _).2
    have hr2 := mid_len x (lo x.cps.toList) (hi x.cps.toList)
    have hx1 := hx.1
    have hc20 := cut20_len (reprText (mid x (lo x.cps.toList) (hi x.cps.toList)))
    have z0 : Str.empty.length = 0 := rfl
    have z1 : (Str.ofString " (").length = 2 := by decide +kernel
    have z2 : (Str.ofString ") is not valid Latin-1. Use ").length = 28 := by decide +kernel
    have z3 : (Str.ofString ".encode('utf-8') if you want to send it encoded in UTF-8.").length = 57 := by decide +kernel
    refine FmtVal_s (MethodCall_ (ld I5.F hn5' (GM.title (callWith_method0 (SCL.title (by omega) fun hti => ?_)))))
    refine ⟨_, _, rfl, by omega, fun k tk => ⟨_, _, rfl, by simp only [Str.length_append]; omega, Calls.Constant_str ⟨_, _, rfl, by simp only [Str.length_append]; omega, FmtVal_r20 ?_⟩⟩⟩
    refine Subscript_Slice (ld I5.F hd5' (wpAny_Slice (evalPart_some_step (Attribute_name (ld I5.F (by rfl) (at_start ex5 (evalPart_some_step (Attribute_name (ld I5.F (by rfl) (at_end ex5 (evalPart_none_step ?_))))))))))) 
    refine SBH.sliceItem_ss (P := fun h' => h5.StaysIn h') (fun h' ob k b o e => Heap.get?_push_of_some _ (k b o e)) (fun _ _ e => e) (fun h6 t6 k6 K6 => ?_) (by omega)
    rw [slice_mid x (lo_le_hi _) (by omega)]
    have I6 := I5.stays U K6
    have ex6 := K6 _ _ ex5
    refine ⟨_, _, rfl, by omega, fun k7 tk7 => ⟨_, _, rfl, by simp only [Str.length_append]; omega, Calls.Constant_str ⟨_, _, rfl, by simp only [Str.length_append]; omega, FmtVal_s (ld I6.F hn5' ⟨_, _, rfl, by omega, fun k8 tk8 => ⟨_, _, rfl, by simp only [Str.length_append]; omega,
      Calls.Constant_str ⟨_, _, rfl, by simp only [Str.length_append]; omega, ⟨by simp only [Str.length_append]; omega, spliced_none ?_⟩⟩⟩⟩)⟩⟩⟩
    refine ue_call (hp := h6) ⟨by omega, by omega⟩ ⟨by omega, by omega⟩ fun h7 e2 t7 M7 => ?_
    have hne : e2 ≠ e1 := fun q => by have := M7.new; rw [q, ex6] at this; cases this
    have ex7 := M7.keeps _ _ ex6
    have I7 := I6.stays U M7.keeps
    have se2 := I6.fresh M7.new
    have st7 := I6.fresh M7.newT
    refine wpAny_bind (wpAny_standAt (wpAny_pure ⟨e2, t7, _, _, _, _, _, _, _, _, _, _, _, _, rfl, hne, M7.exc, ex7, rfl, fun h8 u8 ex8 => ?_⟩))
    have I8 := I7.up1 U u8 se2 (fun o ho => by rw [M7.exc] at ho; cases ho; exact ⟨_, rfl⟩)
    have hte : t7 ≠ e2 := fun q => by have := M7.tup; rw [q, M7.exc] at this; have := congrArg Obj.data (Option.some.inj this); cases this
    have tu8 := (u8.same t7 hte).trans M7.tup
    refine enc_flight (m := fun y => if y = Str.ofString "err" then some (Value.ref e1) else m y) hfr U I8 (by rfl) se2 ex8 tu8 (fun hm => ?_) fun h' T m' tk' I' ue' hT sT tb' tu' => ?_
    · obtain ⟨_, o, ho, _⟩ := (I6.ff U hkm rfl).mem hm
      have := M7.newT; rw [ho] at this; cases this
    · exact hbad hlo h' e2 t7 T (.ref e1) _ _ _ _ _ tk' ⟨m', I'⟩ se2 st7 ue' hT sT tb' tu'


abbrev encFd (dV kV doc pm cdv ct : Value) (an : Option Addr) : FuncData := fnOf (Str.ofString "_encode") (Str.ofString "_encode") encParams encBody encScope dV kV doc pm an cdv ct
def EncFn (B : Heap) (f : Addr) : Prop := ∃ (o oT : Obj) (T : Addr) (kV doc pm cdv ct : Value) (an : Option Addr) (kt : Tok), B.get? f = some o ∧
  o.data = .func (encFd (.ref T) kV doc pm cdv ct an) ∧ B.CodeRec cdv (Str.ofString "_encode") ∧ B.get? T = some oT ∧ oT.data = .seq #[.str (Str.ofString "data") kt] 0

theorem enc_call_by {s : Shared} {args : Args} {R : Result → Shared → Prop} {o : Obj} {dV kV doc pm cdv ct : Value} {an : Option Addr} (hfr : A.frames = some outer) (hh : A.handled = none) (hroom : A.depth < recursionLimit)
    (bs : B.StaysIn s.heap) (hsz : B.objs.size ≤ s.heap.objs.size) (bo : ∀ a ∈ outer.filterMap (·.frame), B.get? a = none) (so : s.heap.FunFrames noHeap outer) (N : Names B) (hlim : B.NoLimit)
    (ho : B.get? f = some o) (hd : o.data = .func (encFd dV kV doc pm cdv ct an)) (hcd : B.CodeRec cdv (Str.ofString "_encode"))
    (hbind : BindsTo s (encFd dV kV doc pm cdv ct an) args [(Str.ofString "data", .str x tx), (Str.ofString "name", .str n tn)]) (hx : Fine x) (hnl : n.length ≤ 100000)
    (hok : lo x.cps.toList = x.cps.toList.length → ∀ h' tk tk', Tch [] (outer.filterMap (·.frame)) s.heap h' → R (.ok (.ret (.bytes (x.cps.toList.map (·.toUInt8)).toArray tk'))) ⟨h', s.gens, s.drawn, tk, s.os⟩)
    (hbad : lo x.cps.toList < x.cps.toList.length → ∀ h' e t T cx t1 t2 t3 t4 t5 tk, Tch [] (outer.filterMap (·.frame)) s.heap h' → s.heap.get? e = none → s.heap.get? t = none → s.heap.get? T = none →
      UeAt h' e (.ref t) (.ref T) cx .none (.bool true) .none (Str.ofString "latin-1") x (encWords n x) (lo x.cps.toList) (hi x.cps.toList) t1 t2 t5 → T ≠ e → TB h' T .none →
      h'.get? t = some { cls := .type "tuple", data := .seq (ueArgs (Str.ofString "latin-1") x (encWords n x) (lo x.cps.toList) (hi x.cps.toList) t1 t2 t3 t4 t5).toArray } → R (.error (.ref e)) ⟨h', s.gens, s.drawn, tk, s.os⟩) :
    codeAny (model prog w) A (.call (.ref f) args) R s := by
  refine codeAny_call_def (fd := encFd dV kV doc pm cdv ct an) (body := encBody) hroom (bs _ _ ho) hd (hlim.keeps bs) (hcd.keeps bs) rfl hbind (show ∀ x ∈ encScope.names, x.2 ≠ .cell by decide) (locs (scope := encScope) (binds := [(Str.ofString "data", .str x tx), (Str.ofString "name", .str n tn)]) rfl) (fun h0 hns k0 => ?_) rfl rfl rfl
  have U : Und B s.heap outer s.heap.objs.size := ⟨bs, bo, Heap.get?_none_of_le (Nat.le_refl _), so⟩
  have I : Inv B s.heap outer s.heap.objs.size _ h0 := ⟨⟨hns, fun b o e => k0 b o (bs b o e), hsz⟩, Tch.of_stays k0⟩
  refine enc_body (L := s.heap.objs.size) (f := f) (cd := cdv) (m := _) hfr hh U I N rfl rfl hx hnl (fun hlo tk tk' => ?_) (fun hlo h' e t T cx t1 t2 t3 t4 t5 tk IE se st ue hT sT tb tu => ?_)
  · exact hok hlo _ _ _ I.K
  · obtain ⟨m', I'⟩ := IE
    unfold PySem.leaving
    refine wpAny_bind (note_again (T := T) rfl ue rfl tb ?_)
    refine set_flight ue (T := T) rfl tb fun h2 u2 tb2 => ?_
    have I2 := I'.up1 U u2 sT tb.fields
    refine hbad hlo h2 e t T cx t1 t2 t3 t4 t5 tk I2.K se st sT ((u2.same e (Ne.symm hT)).trans ue) hT tb2 ((u2.same t fun q => ?_).trans tu)
    obtain ⟨oT, ts, a1, a2, _⟩ := tb
    rw [← q, tu] at a1; cases a1; cases a2

theorem enc_call2 {s : Shared} {R : Result → Shared → Prop} (hf : EncFn B f) (hfr : A.frames = some outer) (hh : A.handled = none) (hroom : A.depth < recursionLimit)
    (bs : B.StaysIn s.heap) (hsz : B.objs.size ≤ s.heap.objs.size) (bo : ∀ a ∈ outer.filterMap (·.frame), B.get? a = none) (so : s.heap.FunFrames noHeap outer) (N : Names B) (hlim : B.NoLimit)
    (hx : Fine x) (hnl : n.length ≤ 100000)
    (hok : lo x.cps.toList = x.cps.toList.length → ∀ h' tk tk', Tch [] (outer.filterMap (·.frame)) s.heap h' → R (.ok (.ret (.bytes (x.cps.toList.map (·.toUInt8)).toArray tk'))) ⟨h', s.gens, s.drawn, tk, s.os⟩)
    (hbad : lo x.cps.toList < x.cps.toList.length → ∀ h' e t T cx t1 t2 t3 t4 t5 tk, Tch [] (outer.filterMap (·.frame)) s.heap h' → s.heap.get? e = none → s.heap.get? t = none → s.heap.get? T = none →
      UeAt h' e (.ref t) (.ref T) cx .none (.bool true) .none (Str.ofString "latin-1") x (encWords n x) (lo x.cps.toList) (hi x.cps.toList) t1 t2 t5 → T ≠ e → TB h' T .none →
      h'.get? t = some { cls := .type "tuple", data := .seq (ueArgs (Str.ofString "latin-1") x (encWords n x) (lo x.cps.toList) (hi x.cps.toList) t1 t2 t3 t4 t5).toArray } → R (.error (.ref e)) ⟨h', s.gens, s.drawn, tk, s.os⟩) :
    codeAny (model prog w) A (.call (.ref f) ⟨[.str x tx, .str n tn], []⟩) R s := by
  obtain ⟨o, oT, T, kV, doc, pm, cdv, ct, an, kt, ho, hd, hcd, hT, hTd⟩ := hf
  exact enc_call_by (tx := tx) (tn := tn) hfr hh hroom bs hsz bo so N hlim ho hd hcd (.of_defaults (T := T) (o := oT) (n := 0) rfl (bs _ _ hT) hTd rfl rfl) hx hnl hok hbad

theorem enc_call1 {s : Shared} {R : Result → Shared → Prop} (hf : EncFn B f) (hfr : A.frames = some outer) (hh : A.handled = none) (hroom : A.depth < recursionLimit)
    (bs : B.StaysIn s.heap) (hsz : B.objs.size ≤ s.heap.objs.size) (bo : ∀ a ∈ outer.filterMap (·.frame), B.get? a = none) (so : s.heap.FunFrames noHeap outer) (N : Names B) (hlim : B.NoLimit)
    (hx : Fine x)
    (hok : lo x.cps.toList = x.cps.toList.length → ∀ h' tk tk', Tch [] (outer.filterMap (·.frame)) s.heap h' → R (.ok (.ret (.bytes (x.cps.toList.map (·.toUInt8)).toArray tk'))) ⟨h', s.gens, s.drawn, tk, s.os⟩)
    (hbad : lo x.cps.toList < x.cps.toList.length → ∀ h' e t T cx t1 t2 t3 t4 t5 tk, Tch [] (outer.filterMap (·.frame)) s.heap h' → s.heap.get? e = none → s.heap.get? t = none → s.heap.get? T = none →
      UeAt h' e (.ref t) (.ref T) cx .none (.bool true) .none (Str.ofString "latin-1") x (encWords (Str.ofString "data") x) (lo x.cps.toList) (hi x.cps.toList) t1 t2 t5 → T ≠ e → TB h' T .none →
      h'.get? t = some { cls := .type "tuple", data := .seq (ueArgs (Str.ofString "latin-1") x (encWords (Str.ofString "data") x) (lo x.cps.toList) (hi x.cps.toList) t1 t2 t3 t4 t5).toArray } → R (.error (.ref e)) ⟨h', s.gens, s.drawn, tk, s.os⟩) :
    codeAny (model prog w) A (.call (.ref f) ⟨[.str x tx], []⟩) R s := by
  obtain ⟨o, oT, T, kV, doc, pm, cdv, ct, an, kt, ho, hd, hcd, hT, hTd⟩ := hf
  exact enc_call_by (n := Str.ofString "data") (tn := kt) hfr hh hroom bs hsz bo so N hlim ho hd hcd (.of_defaults (T := T) (o := oT) (n := 0) rfl (bs _ _ hT) hTd rfl rfl) hx (by decide +kernel) hok hbad
end
end Mine
end
section
open PySem PySem.W PyProof.Rows
open PySem.Builtin PySem.Builtin.Str
namespace Mine

def GlobalIs (B : Heap) (x : Str) (v : Value) : Prop := ∃ mg mb, B.Ns mainGlobals mg ∧ B.Ns builtinsNs mb ∧ (mg x = some v ∨ (mg x = none ∧ mb x = some v))
theorem GlobalIs.keeps {B h : Heap} {x : Str} {v : Value} (g : GlobalIs B x v) (k : B.StaysIn h) : GlobalIs h x v := by
  obtain ⟨mg, mb, a, b, c⟩ := g
  exact ⟨mg, mb, a.keeps k, b.keeps k, c⟩
def FnIs (B : Heap) (f : Addr) (name : Str) (d : Stmt) : Prop := ∃ (o : Obj) (doc pm cdv ct : Value) (an : Option Addr), B.get? f = some o ∧
  o.data = .func (fnOf name name (paramsOf d) (bodyOf d) (scopeOf d) .none .none doc pm an cdv ct) ∧ B.CodeRec cdv name
section
variable {prog : Program} {w : World} {A : Around} {E : Value → Shared → Prop} {s : Shared} {B : Heap} {f : Addr} {outer : List Env}
theorem ld_global {env : Env} {x : Str} {v : Value} {pos : Pos} {Q : Value → Shared → Prop} (g : GlobalIs B x v) (k : B.StaysIn s.heap) (hq : Q v s)
    (hk : env.scope.kind = .function := by rfl) (hx : env.kindOf x = some .globalImplicit := by rfl) (hg : env.globals = mainGlobals := by rfl) (hb : env.builtins = builtinsNs := by rfl) (hd : (x == ("__debug__" : Str)) = false := by decide) :
    wpAny (model prog w) A (eval (.Name x pos) env) Q E s := by
  obtain ⟨mg, mb, a, b, c⟩ := g
  refine Calls.Name_function_global hk hx ?_ hd
  rcases c with c | ⟨c, c'⟩
  · exact Calls.loadGlobal_global (hg ▸ a.keeps k) c hq
  · exact Calls.loadGlobal_builtin (hg ▸ a.keeps k) c (hb ▸ b.keeps k) c' hq
theorem fn_call {name : Str} {d : Stmt} {args : Args} {binds : List (Str × Value)} {R : Result → Shared → Prop} (hf : FnIs B f name d) (hroom : A.depth < recursionLimit) (bs : B.StaysIn s.heap) (hlim : B.NoLimit)
    (hbind : ∀ doc pm cdv ct an, bindArgs (fnOf name name (paramsOf d) (bodyOf d) (scopeOf d) .none .none doc pm an cdv ct) args = pure binds)
    (hcell : ∀ x ∈ (scopeOf d).names, x.2 ≠ .cell) (hloc : ∀ x ∈ binds, (scopeOf d).names.lookup x.1 = some .local)
    (hco : (scopeOf d).isCoroutine = false) (hgen : (scopeOf d).isGenerator = false) (hk : (scopeOf d).kind = .function)
    (h : ∀ h1 cd, Fr s.heap s.heap.objs.size h1 (fun x => binds.reverse.lookup x) →
      wpAny (model prog w) (A.deeper (envOf name (scopeOf d) s.heap.objs.size f cd)) (execs (bodyOf d) (envOf name (scopeOf d) s.heap.objs.size f cd))
        (fun fl s' => R (.ok (.ret (match fl with | .ret v => v | _ => .none))) s') (fun _ _ => False) { s with heap := h1, toks := s.toks + binds.length }) :
    codeAny (model prog w) A (.call (.ref f) args) R s := by
  obtain ⟨o, doc, pm, cdv, ct, an, ho, hd, hcd⟩ := hf
  refine codeAny_call_def (body := bodyOf d) hroom (bs _ _ ho) hd (hlim.keeps bs) (hcd.keeps bs) rfl (.of_eq (hbind _ _ _ _ _)) hcell hloc (fun h0 hns k0 => ?_) hco hgen hk
  exact wpAny_mono (h h0 cdv ⟨hns, k0, Nat.le_refl _⟩) (fun _ _ x => x) fun _ _ x => x.elim
theorem wp_newList {vs : List Value} {Q : Value → Shared → Prop} (hsz : vs.length ≤ sizeLine) (hq : Q (.ref s.heap.objs.size) { s with heap := s.heap.push { cls := .type "list", data := .seq vs.toArray } }) : wpAny (model prog w) A (newList vs) Q E s :=
  wpAny_newObj_type hq (by show vs.toArray.size ≤ sizeLine; rw [List.size_toArray]; exact hsz)
theorem sub_list {value slice : PySem.Expr} {l : Addr} {items : Array Value} {k : Int} {u : Tok} {v : Value} {Q : Value → Shared → Prop}
    (hl : s.heap.IsList l items) (h0 : 0 ≤ k) (hhi : k < 2 ^ 63) (hx : items[k.toNat]? = some v) (h : Q v s)
    (hs : subscripted slice false (.ref l) (.int k u) = operate [.ref l, .int k u] (getItem (.ref l) (.int k u)) := by with_unfolding_all rfl) :
    wpAny (model prog w) A (subscriptTail value slice (.ref l) (.int k u)) Q E s :=
  tail_any hl.typeIs slot_list_getitem.lookup (wpAny_getItem_list hl h0 hhi hx h) hs
theorem sub_list_int {value slice : PySem.Expr} {l : Addr} {items : Array Value} {k M : Int} {u : Tok} {Q : Value → Shared → Prop}
    (hl : s.heap.IsList l items) (h0 : 0 ≤ k) (hhi : k < 2 ^ 63) (hx : ∃ u, items[k.toNat]? = some (.int M u)) (h : ∀ u, Q (.int M u) s)
    (hs : subscripted slice false (.ref l) (.int k u) = operate [.ref l, .int k u] (getItem (.ref l) (.int k u)) := by with_unfolding_all rfl) :
    wpAny (model prog w) A (subscriptTail value slice (.ref l) (.int k u)) Q E s := by
  obtain ⟨u, hu⟩ := hx
  exact sub_list hl h0 hhi hu (h u) hs
end
abbrev latinS : Str := Str.ofString "latin-1"
def octs (x : Str) : Array UInt8 := (x.cps.toList.map (·.toUInt8)).toArray
abbrev loS (x : Str) : Nat := lo x.cps.toList
abbrev hiS (x : Str) : Nat := hi x.cps.toList
def Kp (xs : List Addr) (h h' : Heap) : Prop := ∀ b o, h.get? b = some o → b ∉ xs → h'.get? b = some o
theorem Kp.refl (xs : List Addr) (h : Heap) : Kp xs h h := fun _ _ e _ => e
theorem Kp.trans {xs : List Addr} {a b c : Heap} (x : Kp xs a b) (y : Kp xs b c) : Kp xs a c := fun p o e n => y p o (x p o e n) n
theorem Kp.mono {xs ys : List Addr} {a b : Heap} (x : Kp xs a b) (s : ∀ p ∈ xs, p ∈ ys) : Kp ys a b := fun p o e n => x p o e fun q => n (s p q)
theorem Kp.of_stays {xs : List Addr} {a b : Heap} (k : a.StaysIn b) : Kp xs a b := fun p o e _ => k p o e
theorem Kp.of_same {L : Addr} {xs : List Addr} {a b : Heap} (k : Heap.SameBut L a b) (hL : L ∈ xs) : Kp xs a b := fun p o e n => (k.2 p fun q => n (q ▸ hL)).trans e
theorem Kp.of_tch {L : Addr} {a b : Heap} (x : Tch [] [L] a b) : Kp [L] a b := fun p o e n => x.keep p o e (by simp) n
theorem Kp.fresh {xs ys : List Addr} {a b c : Heap} (x : Kp xs a b) (y : Kp ys b c) (hy : ∀ p ∈ ys, p ∈ xs ∨ a.get? p = none) : Kp xs a c := fun p o e n =>
  y p o (x p o e n) fun q => (hy p q).elim n fun z => by rw [z] at e; cases e
theorem Kp.drop {xs ys : List Addr} {a b : Heap} (x : Kp ys a b) (hy : ∀ p ∈ ys, p ∈ xs ∨ a.get? p = none) : Kp xs a b := (Kp.refl xs a).fresh x hy
theorem Kp.fr {B h h' : Heap} {L : Addr} {xs : List Addr} {m m' : Str → Option Value} (x : Kp xs h h') (hx : ∀ p ∈ xs, B.get? p = none) (F : Fr B L h m) (hn : h'.Ns L m') : Fr B L h' m' :=
  ⟨hn, fun b o e => x b o (F.keep b o e) (fun q => by rw [hx b q] at e; cases e), F.above⟩
theorem Kp.ns {h h' : Heap} {L : Addr} {xs : List Addr} {m : Str → Option Value} (x : Kp xs h h') (hx : L ∉ xs) (hn : h.Ns L m) : h'.Ns L m := by
  obtain ⟨o, es, ep, ho, hd, r⟩ := hn
  exact ⟨o, es, ep, x L o ho hx, hd, r⟩
section
variable {prog : Program} {w : World} {A : Around} {E : Value → Shared → Prop} {B h0 : Heap} {g : Array GenState} {d : Drawn} {tk0 : Nat} {os : OsState} {L : Addr} {env : Env} {m0 : Str → Option Value}
theorem for_law {I : Addr} {fp wr ws : List Addr} {n : Nat} {P : Nat → Value → Prop} {St : Nat → Heap → Prop} {x : Str} {px : Pos} {body : List Stmt} {R : Result → Shared → Prop}
    (W : Walks prog w A I fp wr n P St) (hL : L ∉ fp) (hwL : L ∉ wr) (hB : ∀ b ∈ wr, B.get? b = none) (hws : ∀ b ∈ ws, b ∉ fp) (hBL : B.get? L = none)
    (hloc : env.locals = L) (hx : env.kindOf x = some .local) (hp : (env.scope.kind == .class || (env.scope.kind == .module && env.locals != env.globals)) = false)
    (J : Nat → (Str → Option Value) → Heap → Prop) (jst : ∀ i m h h', J i m h → Kp (L :: wr) h h' → J i m h')
    (F0 : Fr B L h0 m0) (st0 : St 0 h0) (j0 : J 0 m0 h0)
    (turn : ∀ i m h tk v (E' : Value → Shared → Prop), i < n → J i m h → P i v → Fr B L h (fun y => if y = x then some v else m y) → Kp (L :: wr ++ ws) h0 h →
      wpAny (model prog w) A (execs body env) (fun f s3 => f = .next ∧ ∃ m3 h3 tk3, s3 = ⟨h3, g, d, tk3, os⟩ ∧ Fr B L h3 m3 ∧ Kp (L :: ws) h h3 ∧ J (i + 1) m3 h3) E' ⟨h, g, d, tk, os⟩)
    (fin : ∀ m h tk, J n m h → Fr B L h m → Kp (L :: wr ++ ws) h0 h → R (.ok .next) ⟨h, g, d, tk, os⟩) :
    codeAny (model prog w) A (.forLoop (.Name x px) (.ref I) body [] env) R ⟨h0, g, d, tk0, os⟩ := by
  refine codeAny_forLoop_any (fun k s' => ∃ h tk m i, s' = ⟨h, g, d, tk, os⟩ ∧ St i h ∧ Fr B L h m ∧ J i m h ∧ i ≤ n ∧ k = n - i ∧ Kp (L :: wr ++ ws) h0 h) ?_ n
    ⟨h0, tk0, m0, 0, rfl, st0, F0, j0, Nat.zero_le _, rfl, Kp.refl _ _⟩
  rintro k s' ⟨h, tk, m, i, rfl, st, F, j, hi, rfl, K⟩
  have hwr : ∀ p ∈ wr, p ∈ L :: wr := fun p q => .tail _ q
  rcases Nat.lt_or_ge i n with hlt | hge
  · refine W.item i _ _ _ hlt st fun v h1 tk1 hv st1 k1 => ?_
    have K1 : Kp wr h h1 := fun b o e nq => k1 b o nq e
    have F1 : Fr B L h1 m := K1.fr hB F (K1.ns hwL F.ns)
    have hpure : ∀ {E1 : Value → Shared → Prop} {Q1 : Unit → Shared → Prop} {s1 : Shared}, Q1 () s1 → wpAny (model prog w) A (letOwnedTupleGo (.Name x px) (.ref I) v) Q1 E1 s1 := fun hq => wpAny_of_eq (a := ()) rfl hq
    refine hpure (wpAny_assign_Name (wpAny_storeName_local (m := m) (by exact hx) (by rw [hloc]; exact F1.ns) (fun h2 hn2 hs2 => ?_) hp))
    rw [hloc] at hn2 hs2
    have K2 : Kp (L :: wr) h h2 := (K1.mono hwr).trans (Kp.of_same hs2 (.head _))
    have F2 : Fr B L h2 (fun y => if y = x then some v else m y) := F1.set hn2 hs2
    have st2 : St (i + 1) h2 := W.frame _ _ _ st1 fun b hb o e => (hs2.2 b fun q => hL (q ▸ hb)).trans e
    refine wpAny_mono (turn i m h2 (tk1 + 1) v _ hlt (jst _ _ _ _ j K2) hv F2 (K.trans (K2.mono fun p q => List.mem_append_left _ q))) (fun f s3 h3 => ?_) fun _ _ q => q
    obtain ⟨rfl, m3, h3, tk3, rfl, F3, K3, j3⟩ := h3
    refine ⟨n - (i + 1), by omega, h3, tk3, m3, i + 1, rfl, ?_, F3, j3, hlt, rfl, (K.trans (K2.mono fun p q => List.mem_append_left _ q)).trans (K3.mono fun p q => (List.mem_cons.mp q).elim (fun e => e ▸ .head _) fun q => .tail _ (List.mem_append_right _ q))⟩
    refine W.frame _ _ _ st2 fun b hb o e => K3 b o e fun q => ?_
    rcases List.mem_cons.mp q with rfl | q
    · exact hL hb
    · exact hws b q hb
  · obtain rfl : i = n := Nat.le_antisymm hi hge
    refine W.done _ _ _ st fun h1 tk1 k1 => wpAny_execs_nil ?_
    have K1 : Kp wr h h1 := fun b o e nq => k1 b o nq e
    exact fin m h1 tk1 (jst _ _ _ _ j (K1.mono hwr)) (K1.fr hB F (K1.ns hwL F.ns)) (K.trans (K1.mono fun p q => List.mem_append_left _ (.tail _ q)))
end
theorem eqAt_bytes {A : Around} {s : Shared} {b c : Array UInt8} {t u : Tok} (h : b = c) : PySem.SeqAt.EqAt A s (.bytes b t) (.bytes c u) true := fun prog w E Q hq => by
  unfold eqBool
  refine wpAny_holding ?_
  refine wpAny_ite_split (fun hab => ?_) (fun _ => ?_)
  · exact wpAny_bind (wpAny_rule (wpAny_pure hq))
  · exact wpAny_bind (richCompare_gives (typeIs_bytes s b t) (typeIs_bytes s c u) FB.slot_bytes_eq FB.entry_bytes_eq (FB.args_bytes_eq_2 _ _) (gives_bytes_eq b c t u) (fun e => nomatch e)
      (wpAny_truthy_bool (by rw [h]; simpa using hq)))
theorem tw_append {p : Nat → Bool} : ∀ a b : List Nat, ((a ++ b).takeWhile p).length = if (a.takeWhile p).length < a.length then (a.takeWhile p).length else a.length + (b.takeWhile p).length
  | [], b => by simp
  | x :: a, b => by
    rw [List.cons_append, List.takeWhile_cons, List.takeWhile_cons]
    by_cases h : p x = true
    · rw [if_pos h, if_pos h]
      simp only [List.length_cons]
      rw [tw_append a b]
      by_cases h2 : (a.takeWhile p).length < a.length
      · rw [if_pos h2, if_pos (by omega)]
      · rw [if_neg h2, if_neg (by omega)]; omega
    · rw [if_neg h, if_neg h]; simp
theorem lo_append (a b : List Nat) : lo (a ++ b) = if lo a < a.length then lo a else a.length + lo b := tw_append a b
theorem hi_append (a b : List Nat) : hi (a ++ b) = if lo a < a.length then (if hi a = a.length then a.length + (if lo b = 0 then hi b else 0) else hi a) else a.length + hi b := by
  unfold hi
  rw [lo_append]
  by_cases h : lo a < a.length
  · rw [if_pos h, if_pos h, List.drop_append_of_le_length (by omega), tw_append]
    have hl : (a.drop (lo a)).length = a.length - lo a := List.length_drop
    by_cases h2 : ((a.drop (lo a)).takeWhile (fun c => !decide (c < 256))).length < (a.drop (lo a)).length
    · rw [if_pos h2, if_neg (by omega)]
    · have h3 : ((a.drop (lo a)).takeWhile (fun c => !decide (c < 256))).length ≤ (a.drop (lo a)).length := takeWhile_len_le _
      rw [if_neg h2, if_pos (by omega), hl]
      have h5 : (b.takeWhile (fun c => !decide (c < 256))).length = if lo b = 0 then lo b + ((b.drop (lo b)).takeWhile (fun c => !decide (c < 256))).length else 0 := by
        by_cases h4 : lo b = 0
        · rw [if_pos h4, h4]; simp
        · rw [if_neg h4]
          cases b with
          | nil => rfl
          | cons c r =>
            have hc : c < 256 := by
              unfold lo at h4
              rw [List.takeWhile_cons] at h4
              by_cases hc : c < 256
              · exact hc
              · simp [hc] at h4
            simp [List.takeWhile_cons, hc]
      rw [h5]
      omega
  · rw [if_neg h, if_neg h]
    have : (a ++ b).drop (a.length + lo b) = b.drop (lo b) := by rw [List.drop_append]; simp
    rw [this]; omega
def runOf (l : List Nat) : List Nat := (l.drop (lo l)).take (hi l - lo l)
theorem runOf_eq (l : List Nat) : runOf l = (l.drop (lo l)).takeWhile (fun c => !decide (c < 256)) := by
  unfold runOf hi
  rw [Nat.add_sub_cancel_left]
  generalize l.drop (lo l) = r
  induction r with
  | nil => rfl
  | cons c r ih =>
    rw [List.takeWhile_cons]
    split
    · rw [List.length_cons, List.take_succ_cons, ih]
    · rfl
theorem takeWhile_all {p : Nat → Bool} : ∀ l : List Nat, ∀ c ∈ l.takeWhile p, p c = true
  | [], c, h => by simp at h
  | x :: l, c, h => by
    rw [List.takeWhile_cons] at h
    split at h
    · rcases List.mem_cons.mp h with rfl | h
      · assumption
      · exact takeWhile_all l c h
    · simp at h
theorem tw_self {p : Nat → Bool} : ∀ l : List Nat, (∀ c ∈ l, p c = true) → l.takeWhile p = l
  | [], _ => rfl
  | x :: l, h => by rw [List.takeWhile_cons, if_pos (h x (.head _)), tw_self l fun c hc => h c (.tail _ hc)]
theorem runOf_big (l : List Nat) : ∀ c ∈ runOf l, ¬ c < 256 := fun c h => by
  rw [runOf_eq] at h
  have := takeWhile_all _ c h
  simpa using this
theorem lo_big {l : List Nat} (h : ∀ c ∈ l, ¬ c < 256) : lo l = 0 := by
  cases l with
  | nil => rfl
  | cons c r =>
    unfold lo
    rw [List.takeWhile_cons, if_neg (by simpa using h c (.head _))]; rfl
theorem hi_big {l : List Nat} (h : ∀ c ∈ l, ¬ c < 256) : hi l = l.length := by
  unfold hi
  rw [lo_big h, List.drop_zero, tw_self l fun c hc => by simpa using h c hc]; omega
theorem runOf_run {l : List Nat} (h : ∀ c ∈ l, ¬ c < 256) : runOf l = l := by
  unfold runOf; rw [lo_big h, hi_big h]; simp
theorem runOf_pos {l : List Nat} (h : lo l < l.length) : 0 < (runOf l).length := by
  rw [runOf_eq]
  have h1 : l.drop (lo l) = l[lo l] :: l.drop (lo l + 1) := List.drop_eq_getElem_cons h
  have h2 := lo_stop l h
  rw [h1, List.takeWhile_cons, if_pos (by simpa using h2)]
  simp
theorem mid_run (x : Str) : (mid x (loS x) (hiS x)).cps.toList = runOf x.cps.toList := by
  show ((x.cps.toList.drop _).take _).toArray.toList = _
  rw [List.toList_toArray]; rfl
theorem encWords_run (n x : Str) : encWords n (mid x (loS x) (hiS x)) = encWords n x := by
  unfold encWords
  have e := mid_run x
  have hb := runOf_big x.cps.toList
  have : mid (mid x (loS x) (hiS x)) (lo (mid x (loS x) (hiS x)).cps.toList) (hi (mid x (loS x) (hiS x)).cps.toList) = mid x (loS x) (hiS x) := by
    exact str_ext ((mid_run _).trans (runOf_run (by rw [e]; exact hb)))
  rw [this]
theorem hi_bounds {l : List Nat} (h : lo l < l.length) : lo l < hi l ∧ hi l ≤ l.length := by
  have h1 := runOf_pos h
  rw [runOf_eq] at h1
  exact ⟨by unfold hi; omega, hi_le l⟩
theorem un {a : Option Value} {w v : Value} {x y : Str} (h : a = some w) (hne : y ≠ x := by decide) : (if y = x then some v else a) = some w := (if_neg hne).trans h
theorem ue {a : Option Value} {v : Value} {x : Str} : (if x = x then some v else a) = some v := if_pos rfl
def forBodyOf : Stmt → List Stmt
  | .For _ _ b _ _ => b
  | _ => []
def ifBodyOf : Stmt → List Stmt
  | .If _ b _ _ => b
  | _ => []
def ifElseOf : Stmt → List Stmt
  | .If _ _ b _ => b
  | _ => []
def nth (l : List Stmt) (i : Nat) : Stmt := (l[i]?).getD (.Pass ⟨0, 0, 0, 0⟩)
theorem not_frame {h : Heap} {L a : Addr} {o : Obj} {m : Str → Option Value} (hn : h.Ns L m) (ho : h.get? a = some o) (hd : ∀ es n, o.data ≠ .dict es n) : a ≠ L := fun q => by
  obtain ⟨o', es, ep, ho', hd2, _⟩ := hn
  rw [q, ho'] at ho; cases ho; exact hd _ _ hd2
theorem Kp.get {h h' : Heap} {L a : Addr} {o : Obj} {m : Str → Option Value} (K : Kp [L] h h') (hn : h.Ns L m) (ho : h.get? a = some o) (hd : ∀ es n, o.data ≠ .dict es n) : h'.get? a = some o :=
  K a o ho (by simpa using not_frame hn ho hd)
def pre (x : Str) (k : Nat) : Str := ⟨(x.cps.toList.take k).toArray⟩
def suf (x : Str) (k : Nat) : Str := ⟨(x.cps.toList.drop k).toArray⟩
theorem pre_list (x : Str) (k : Nat) : (pre x k).cps.toList = x.cps.toList.take k := by simp [pre]
theorem suf_list (x : Str) (k : Nat) : (suf x k).cps.toList = x.cps.toList.drop k := by simp [suf]
theorem slice_pre (x : Str) {k : Nat} (h : k ≤ x.length) : Txt.slice x none (some (k : Int)) = pre x k := by
  have := beq_iff_eq.mp (slice_closes_toL (x := x) (j := (k : Int)) (by omega) (by omega))
  rw [this]; simp [pre]
theorem slice_suf (x : Str) {k : Nat} (h : k ≤ x.length) : Txt.slice x (some (k : Int)) none = suf x k := by
  rw [slice_from_eq (b := (x.length : Int)) (by omega) (by omega) rfl]
  unfold suf
  congr 2
  refine List.take_of_length_le ?_
  have : x.cps.toList.length = x.length := Array.length_toList
  rw [List.length_drop]; omega
theorem Fine.pre {x : Str} (h : Fine x) (k : Nat) : Fine (pre x k) := by
  refine ⟨?_, fun c hc => h.2 c ?_⟩
  · have h1 := h.1
    have : x.cps.toList.length = x.length := Array.length_toList
    show ((x.cps.toList.take k).toArray).size ≤ _
    rw [List.size_toArray, List.length_take]; omega
  · rw [pre_list] at hc; exact List.mem_of_mem_take hc
theorem Fine.suf {x : Str} (h : Fine x) (k : Nat) : Fine (suf x k) := by
  refine ⟨?_, fun c hc => h.2 c ?_⟩
  · have h1 := h.1
    have : x.cps.toList.length = x.length := Array.length_toList
    show ((x.cps.toList.drop k).toArray).size ≤ _
    rw [List.size_toArray, List.length_drop]; omega
  · rw [suf_list] at hc; exact List.mem_of_mem_drop hc
section
variable {prog : Program} {w : World} {A : Around} {E : Value → Shared → Prop} {B h : Heap} {g : Array GenState} {d : Drawn} {tk : Nat} {os : OsState} {L f : Addr} {cd : Value} {m : Str → Option Value} {x : Str} {tx : Tok}
theorem istup {h : Heap} {p : Addr} {vs : Array Value} (hp : h.get? p = some { cls := .type "tuple", data := .seq vs }) : IsTup h p vs := ⟨_, hp, rfl, _, rfl⟩
theorem sub_tuple {value slice : PySem.Expr} {l : Addr} {items : Array Value} {k : Int} {j : Nat} {u : Tok} {v : Value} {Q : Value → Shared → Prop} {s : Shared}
    (hl : IsTup s.heap l items) (h0 : -(2 ^ 63) ≤ k) (hhi : k < 2 ^ 63) (hj : seqIndex? k items.size = some j) (hx : items[j]? = some v) (h : Q v s)
    (hs : subscripted slice false (.ref l) (.int k u) = operate [.ref l, .int k u] (getItem (.ref l) (.int k u)) := by with_unfolding_all rfl) :
    wpAny (model prog w) A (subscriptTail value slice (.ref l) (.int k u)) Q E s :=
  tail_any hl.typeIs PyProof.Rows.slot_tuple_getitem.lookup (getItem_tuple hl h0 hhi hj hx h) hs
theorem octs_join (x : Str) (k : Nat) : octs x = octs (pre x k) ++ octs (suf x k) := by
  unfold octs
  rw [pre_list, suf_list, List.map_take, List.map_drop]
  apply Array.ext'
  simp
theorem unpk {p : Addr} {items : Array Value} {Q : List Value → Shared → Prop} {n : Nat} (hh : A.handled = none) (hp : h.get? p = some { cls := .type "tuple", data := .seq items }) (hn : n = items.size)
    (hq : ∀ h', h.StaysIn h' → Q items.toList ⟨h', g, d, tk, os⟩) : wpAny (model prog w) A (unpackItems (.ref p) n none) Q E ⟨h, g, d, tk, os⟩ := by
  subst hn
  exact unpackItems_tuple hh (istup hp) fun h' he => hq h' fun b o e => he b o (Nat.ne_of_lt (Heap.lt_size e)) e
theorem storeN {name y : Str} {scope : Scope} {v : Value} {Q : Unit → Shared → Prop} (F : Fr B L h m)
    (hq : ∀ h2, Fr B L h2 (fun z => if z = y then some v else m z) → Kp [L] h h2 → Q () ⟨h2, g, d, tk + 1, os⟩)
    (hk : scope.kind = .function := by rfl) (hl : (envOf name scope L f cd).kindOf y = some .local := by rfl) :
    wpAny (model prog w) A (storeName (envOf name scope L f cd) y v) Q E ⟨h, g, d, tk, os⟩ :=
  wpAny_storeName_local (s := ⟨h, g, d, tk, os⟩) (m := m) hl F.ns (fun h2 hn2 hs2 => hq h2 (F.set hn2 hs2) (Kp.of_same hs2 (List.mem_singleton.mpr rfl)))
    (by show (scope.kind == .class || (scope.kind == .module && L != mainGlobals)) = false; rw [hk]; rfl)
end
end Mine
end
section
open PySem PySem.W PyProof.Rows
open PySem.Builtin PySem.Builtin.Str
namespace Mine

section
variable {prog : Program} {w : World} {A : Around} {E : Value → Shared → Prop} {B h : Heap} {g : Array GenState} {d : Drawn} {tk : Nat} {os : OsState} {L f : Addr} {cd : Value} {m : Str → Option Value} {name : Str} {scope : Scope}

theorem caught {Q : Flow → Shared → Prop} {P : Flow → (Str → Option Value) → Prop} {e T : Addr} {X Y : String} {dd : Option Addr} {vs : Array Value} {sl : Array (Option Value)} {n : Str} {b₀ : Stmt} {suite : List Stmt} {p1 pos : Pos} {rest : List ExceptHandler}
    (hfr : A.frames = some [envOf name scope L f cd]) (hBL : B.get? L = none) (F : Fr B L h m) (gy : GlobalIs B (Str.ofString Y) (.type Y)) (hBe : B.get? e = none) (hBT : B.get? T = none)
    (he : h.get? e = some ⟨.type X, dd, .fields vs, sl⟩) (h1 : vs[1]? = some (.ref T)) (hT : TB h T .none) (hTe : T ≠ e)
    (hexc : isSubtype (.type Y) (.type "BaseException") = pure true) (hnt : isSubtype (.type ((Manifest.find? Y).elim "type" fun x => x.metatype)) (.type "tuple") = pure false) (hsub : isSubtype (.type X) (.type Y) = pure true)
    (hbody : ∀ h' tk' T' (E' : Value → Shared → Prop), Fr B L h' (fun y => if y = n then some (.ref e) else m y) → Kp [L, e, T] h h' → h'.get? e = some ⟨.type X, dd, .fields (vs.setIfInBounds 1 (.ref T')), sl⟩ →
      wpAny (model prog w) (A.mark (some (.ref e))) (execs (b₀ :: suite) (envOf name scope L f cd)) (fun fl s' => ∃ h2 m2 tk2, s' = ⟨h2, g, d, tk2, os⟩ ∧ Fr B L h2 m2 ∧ Kp [L] h' h2 ∧ P fl m2) E' ⟨h', g, d, tk', os⟩)
    (hq : ∀ fl h3 m2 v tk3, P fl m2 → Fr B L h3 (fun y => if y = n then v else m2 y) → Kp [L, e, T] h h3 → Q fl ⟨h3, g, d, tk3, os⟩)
    (hk : scope.kind = .function := by rfl) (hn : (envOf name scope L f cd).kindOf n = some .local := by rfl) (hy : (envOf name scope L f cd).kindOf (Str.ofString Y) = some .globalImplicit := by rfl) (hdb : (Str.ofString Y == ("__debug__" : Str)) = false := by decide) :
    wpAny (model prog w) A (noteFrame (.ref e) (envOf name scope L f cd)) (fun _ s₂ => wpAny (model prog w) A (setFlight (.ref e) none) (fun _ s₃ =>
      wpAny (model prog w) A (handleBy (.ref e) (envOf name scope L f cd) (.ExceptHandler (some (.Name (Str.ofString Y) p1)) (some n) (b₀ :: suite) pos :: rest)) Q E s₃) E s₂) E ⟨h, g, d, tk, os⟩ := by
  have hkm : (envOf name scope L f cd).scope.kind ≠ .module := by show scope.kind ≠ .module; rw [hk]; decide
  have hff : h.FunFrames noHeap [envOf name scope L f cd] := Heap.FunFrames.cons hkm rfl F.ns (noHeap_get L) trivial
  have hfm : ([envOf name scope L f cd] : List Env).filterMap (·.frame) = [L] := rfl
  have hp : ((envOf name scope L f cd).scope.kind == .class || ((envOf name scope L f cd).scope.kind == .module && (envOf name scope L f cd).locals != (envOf name scope L f cd).globals)) = false := by
    show (scope.kind == .class || (scope.kind == .module && L != mainGlobals)) = false; rw [hk]; rfl
  have eL : e ≠ L := not_frame F.ns he (fun _ _ q => by cases q)
  have step : ∀ {h1 h2 : Heap} {xs : List Addr} {m1 : Str → Option Value}, Tch xs [L] h1 h2 → L ∉ xs → (∀ a ∈ xs, B.get? a = none) → Fr B L h1 m1 → Fr B L h2 m1 := fun x hL hx F1 =>
    ⟨x.ns hL F1.ns, fun b o eb => x.keep b o (F1.keep b o eb) (fun q => by rw [hx b q] at eb; cases eb) (fun q => by rw [List.mem_singleton.mp q, hBL] at eb; cases eb), F1.above⟩
  obtain ⟨oT, ts, hT1, hT2, hT3⟩ := id hT
  have TL : T ≠ L := not_frame F.ns hT1 (fun _ _ q => by rw [hT2] at q; cases q)
  refine note_next hfr hff rfl he h1 hT hTe fun h3 T3 K3 hl3 hT3' hTe3 ex3 tb3 => ?_
  rw [hfm] at K3
  have F3 := step K3 (by simp [eL.symm, TL.symm]) (by intro a ha; simp at ha; rcases ha with rfl | rfl <;> assumption) F
  have hv1 : 1 < vs.size := (Array.getElem?_eq_some_iff.mp h1).1
  have hg1 : (vs.setIfInBounds 1 (.ref T3))[1]? = some (.ref T3) := by simp [hv1]
  have hBT3 : B.get? T3 = none := by
    cases q : B.get? T3 with
    | none => rfl
    | some o => have := F.keep _ _ q; rw [hT3'] at this; cases this
  have T3L : ∀ {h : Heap} {m : Str → Option Value} {fl : Value}, h.Ns L m → TB h T3 fl → T3 ≠ L := fun hn ⟨oT, ts, a1, a2, _⟩ => not_frame hn a1 (fun _ _ q => by rw [a2] at q; cases q)
  refine set_flight ex3 (T := T3) hg1 tb3 fun h4 u4 tb4 => ?_
  have F4 := step (Tch.of_up1 (fs := [L]) u4 (List.mem_singleton.mpr rfl)) (by simpa using (T3L F3.ns tb3).symm) (by simpa using hBT3) F3
  have ex4 := (u4.same e (Ne.symm hTe3)).trans ex3
  refine wpAny_handleBy_builtin_as (X := X) (T := Y) (b := true) hexc hnt hsub (ld_global gy F4.keep ⟨rfl, ⟨_, ex4, rfl⟩, ?_⟩ hk hy rfl rfl hdb)
  rw [if_pos rfl]
  refine set_flight ex4 (T := T3) hg1 tb4 fun h5 u5 tb5 => ?_
  have F5 := step (Tch.of_up1 (fs := [L]) u5 (List.mem_singleton.mpr rfl)) (by simpa using (T3L F4.ns tb4).symm) (by simpa using hBT3) F4
  have ex5 := (u5.same e (Ne.symm hTe3)).trans ex4
  refine storeN (m := m) F5 (fun h6 F6 K6 => ?_) hk hn
  have ex6 := K6.get F5.ns ex5 (fun _ _ q => by cases q)
  have K36 : Kp [L, e, T] h h6 := by
    have k3 : Kp [L, e, T] h h3 := fun p o eo np => K3.keep p o eo (fun q => np (by simp at q ⊢; rcases q with rfl | rfl <;> simp)) (fun q => np (by rw [List.mem_singleton.mp q]; simp))
    have k4 : ∀ p o, h3.get? p = some o → p ≠ T3 → h5.get? p = some o := fun p o eo np => (u5.same p np).trans ((u4.same p np).trans eo)
    exact fun p o eo np => K6 p o (k4 p o (k3 p o eo np) (fun q => by rw [q, hT3'] at eo; cases eo)) (fun q => np (by rw [List.mem_singleton.mp q]; simp))
  refine wpAny_mono (hbody h6 _ T3 _ F6 K36 ex6) (fun fl s' hs => ?_) fun _ _ q => q
  obtain ⟨h7, m7, tk7, rfl, F7, K7, hP⟩ := hs
  refine wpAny_nameGoes_keeps (env := envOf name scope L f cd) hn F7.ns hp fun h8 v hn8 hs8 => ?_
  exact hq fl h8 m7 v _ hP (F7.set hn8 hs8) ((K36.trans (K7.mono (by simp))).trans (Kp.of_same hs8 (.head _)))
end
end Mine
end
section
open PySem PySem.W PyProof.Rows
open PySem.Builtin PySem.Builtin.Str
namespace Mine

structure NewAE (h h' : Heap) (e e1 : Addr) (name : Str) (o : Value) : Prop where
  keeps : h.StaysIn h'
  new : h.get? e = none
  there : ∃ (t : Value) (u : Tok), h'.get? e = some { cls := .type "AttributeError", data := .fields #[t, .none, .ref e1, .none, .bool false, .none, .str name u, o] }

structure Hand (h : Heap) (e1 : Addr) : Prop where
  ex : ∃ cls1 dd1 vs1 sl1, h.get? e1 = some ⟨cls1, dd1, .fields vs1, sl1⟩ ∧ vs1[2]? = some .none

section
variable {α : Type} {prog : Program} {w : World} {A : Around} {E : Value → Shared → Prop} {s : Shared} {e1 : Addr}

theorem raiseAE {o : Value} {name : Str} {msg : Str} {Q : α → Shared → Prop} (hh : A.handled = some (.ref e1)) (H : Hand s.heap e1)
    (h : ∀ h' tk e, NewAE s.heap h' e e1 name o → E (.ref e) { s with heap := h', toks := tk }) (hm : msg.length ≤ sizeLine := by size_fits) :
    wpAny (model prog w) A (raiseAttrError o name msg : Sem α) Q E s := by
  unfold raiseAttrError
  refine wpAny_bind (wpAny_mkStr (wpAny_bind ?_) hm)
  unfold newExc newTuple
  refine wpAny_bind (wpAny_newObj_type ?_ (by size_fits))
  refine wpAny_bind (m := firstArgMember _ _) (wpAny_of_eq (a := Value.none) (by simp only [firstArgMember, attrError_no_first]; rfl) ?_)
  rw [ownMembersOf_AttributeError]
  refine wpAny_newObj_type ?_ (by size_fits)
  obtain ⟨hp, g, d, tk, os⟩ := s
  obtain ⟨cls1, dd1, vs1, sl1, he1, h12⟩ := H.ex
  have f1 := sub_AttributeError
  have hlt1 : e1 < hp.objs.size := Heap.lt_size he1
  repeat (any_goals (first | assumption | wp_step))
  refine raiseNew_in (e1 := e1) hh ?_ (Heap.get?_update_self _ (Heap.get?_push_size _ rfl) rfl) ?_ ((Heap.get?_update_other _ _ ?_).trans (Heap.get?_push_of_some _ (Heap.get?_push_of_some _ he1))) h12 fun h5 u5 e5 => ?_
  · simp only [Heap.size_push]; exact Nat.ne_of_gt (Nat.lt_succ_of_lt hlt1)
  · simp
  · simp only [Heap.size_push]; exact Nat.ne_of_gt (Nat.lt_succ_of_lt hlt1)
  refine h _ _ _ ⟨fun b ob hb => ?_, Heap.get?_none_of_le (by simp), ⟨_, _, e5⟩⟩
  have hlt : b < hp.objs.size := Heap.lt_size hb
  refine (u5.same b ?_).trans ((Heap.get?_update_other _ _ ?_).trans (Heap.get?_push_of_some _ (Heap.get?_push_of_some _ hb)))
  · simp only [Heap.size_push]; exact Nat.ne_of_lt (Nat.lt_succ_of_lt hlt)
  · simp only [Heap.size_push]; exact Nat.ne_of_gt (Nat.lt_succ_of_lt hlt)

end

def raisesAE (e1 : Addr) (name : Str) (o : Value) : PySem.Spec := fun A R s => A.handled = some (.ref e1) ∧ Hand s.heap e1 ∧ ∀ h' tk e, NewAE s.heap h' e e1 name o → R (.error (.ref e)) { s with heap := h', toks := tk }

theorem meets_none (e1 : Addr) (name : Str) (u : Tok) (hmiss : typeLookup (.type "NoneType") name = pure none) (hsz : name.length + 100 ≤ sizeLine) : Meets (Builtin.«object.__getattribute__» ⟨[.none, .str name u], []⟩) (raisesAE e1 name .none) :=
  Meets.of_wp fun prog w A R s hs => by
    obtain ⟨hp, g, d, tk, os⟩ := s
    have hT : ∀ s' : Shared, s'.TypeIs (.none) "NoneType" := fun _ => rfl
    unfold Builtin.«object.__getattribute__»
    repeat (any_goals (first | assumption | wp_step))
    exact raiseAE hs.1 hs.2.1 hs.2.2 (attrMsg_fits (by decide +kernel) hsz)
theorem meets_int (e1 : Addr) (n : Int) (t : Tok) (name : Str) (u : Tok) (hmiss : typeLookup (.type "int") name = pure none) (hsz : name.length + 100 ≤ sizeLine) : Meets (Builtin.«object.__getattribute__» ⟨[.int n t, .str name u], []⟩) (raisesAE e1 name (.int n t)) :=
  Meets.of_wp fun prog w A R s hs => by
    obtain ⟨hp, g, d, tk, os⟩ := s
    have hT : ∀ s' : Shared, s'.TypeIs (.int n t) "int" := fun _ => rfl
    unfold Builtin.«object.__getattribute__»
    repeat (any_goals (first | assumption | wp_step))
    exact raiseAE hs.1 hs.2.1 hs.2.2 (attrMsg_fits (by decide +kernel) hsz)
theorem meets_list (e1 a : Addr) (xs : Array Value) (k : Nat) (sl : Array (Option Value)) (name : Str) (u : Tok) (hmiss : typeLookup (.type "list") name = pure none) (hname : (["__module__", "__name__", "__qualname__", "__doc__", "__annotations__"] : List Str).contains name = false) (hsz : name.length + 100 ≤ sizeLine) :
    Meets (Builtin.«object.__getattribute__» ⟨[.ref a, .str name u], []⟩) (fun A R s => s.heap.get? a = some { cls := .type "list", dict := none, data := .seq xs k, slots := sl } ∧ raisesAE e1 name (.ref a) A R s) :=
  Meets.of_wp fun prog w A R s hs => by
    obtain ⟨hp, g, d, tk, os⟩ := s
    obtain ⟨hx, hs⟩ := hs
    have hT : (⟨hp, g, d, tk, os⟩ : Shared).TypeIs (.ref a) "list" := ⟨_, hx, rfl⟩
    unfold Builtin.«object.__getattribute__»
    repeat (any_goals (first | assumption | wp_step))
    simp only [hname, Bool.false_eq_true, if_false]
    repeat (any_goals (first | assumption | wp_step))
    exact raiseAE hs.1 hs.2.1 hs.2.2 (attrMsg_fits (by decide +kernel) hsz)
theorem meets_dict (e1 a : Addr) (es : Array DictEntry) (k : Nat) (sl : Array (Option Value)) (name : Str) (u : Tok) (hmiss : typeLookup (.type "dict") name = pure none) (hname : (["__module__", "__name__", "__qualname__", "__doc__", "__annotations__"] : List Str).contains name = false) (hsz : name.length + 100 ≤ sizeLine) :
    Meets (Builtin.«object.__getattribute__» ⟨[.ref a, .str name u], []⟩) (fun A R s => s.heap.get? a = some { cls := .type "dict", dict := none, data := .dict es k, slots := sl } ∧ raisesAE e1 name (.ref a) A R s) :=
  Meets.of_wp fun prog w A R s hs => by
    obtain ⟨hp, g, d, tk, os⟩ := s
    obtain ⟨hx, hs⟩ := hs
    have hT : (⟨hp, g, d, tk, os⟩ : Shared).TypeIs (.ref a) "dict" := ⟨_, hx, rfl⟩
    unfold Builtin.«object.__getattribute__»
    repeat (any_goals (first | assumption | wp_step))
    simp only [hname, Bool.false_eq_true, if_false]
    repeat (any_goals (first | assumption | wp_step))
    exact raiseAE hs.1 hs.2.1 hs.2.2 (attrMsg_fits (by decide +kernel) hsz)

section
variable {prog : Program} {w : World} {A : Around} {E : Value → Shared → Prop} {s : Shared} {e1 : Addr} {pl : Sem Bool} {Q : Value × List Value → Shared → Prop} {name : Str}
theorem usual {v : Value} {T : String} (hT : s.TypeIs v T) (pa : PlainAttrs T) (hmiss : typeLookup (.type T) name = pure none) (h : wpAny (model prog w) A (getAttr v name) (fun r s' => Q (r, []) s') E s) :
    wpAny (model prog w) A (getMethod v name pl) Q E s := by
  obtain ⟨g, hg, hcan⟩ := pa.ga
  unfold getMethod
  refine wpAny_bind (wpAny_specialOf hT hg ?_)
  show wpAny _ A (if (Manifest.canonical g != "object.__getattribute__") = true then _ else _) Q E s
  rw [hcan, if_neg Bool.false_ne_true]
  refine wpAny_bind (wpAny_specialOf hT pa.noGetattr ?_)
  refine wpAny_bind (wpAny_specialOf hT hmiss ?_)
  exact wpAny_bind (wpAny_mono h (fun r s' x => wpAny_pure x) fun _ _ x => x)
theorem miss_none {Q : Value → Shared → Prop} (hmiss : typeLookup (.type "NoneType") name = pure none) (hsz : name.length + 100 ≤ sizeLine) (hA : A.handled = some (.ref e1)) (H : Hand s.heap e1) (h : ∀ h' tk e, NewAE s.heap h' e e1 name .none → E (.ref e) { s with heap := h', toks := tk }) :
    wpAny (model prog w) A (getAttr .none name) Q E s := by
  obtain ⟨hp, g, d, tk, os⟩ := s
  have hT : ∀ s' : Shared, s'.TypeIs (.none) "NoneType" := fun _ => rfl
  have f1 := sub_AttributeError
  have f3 := F.slot_NoneType_getattribute.lookup
  have f4 := F.slot_NoneType_getattribute.bind .none
  have f5 := am_none_getattr_none
  unfold getAttr getAttrBy
  repeat (any_goals (first | assumption | exact hT _ | ((with_reducible show wpAny _ _ (call (Value.builtin "object.__getattribute__") _ _) _ _ _); refine call_meets F.slot_NoneType_getattribute (hT _) F.entry_object_getattribute (F.args_object_getattribute_2 _ _) (meets_none e1 name _ hmiss hsz) ⟨hA, H, fun h' tk' e hx => ?_⟩) | ((with_reducible show codeAny _ _ (Code.call (Value.builtin "object.__getattribute__") _) _ _); fail "call") | wp_step))
  obtain ⟨t', u', he⟩ := hx.there
  show wpAny _ _ (getattributeRaised _ _ _ _ _ _ _) _ _ _
  unfold getattributeRaised
  repeat (any_goals (first | assumption | wp_step))
  exact h _ _ _ hx
theorem miss_int {n : Int} {t : Tok} {Q : Value → Shared → Prop} (hmiss : typeLookup (.type "int") name = pure none) (hsz : name.length + 100 ≤ sizeLine) (hA : A.handled = some (.ref e1)) (H : Hand s.heap e1) (h : ∀ h' tk e, NewAE s.heap h' e e1 name (.int n t) → E (.ref e) { s with heap := h', toks := tk }) :
    wpAny (model prog w) A (getAttr (.int n t) name) Q E s := by
  obtain ⟨hp, g, d, tk, os⟩ := s
  have hT : ∀ s' : Shared, s'.TypeIs (.int n t) "int" := fun _ => rfl
  have f1 := sub_AttributeError
  have f3 := F.slot_int_getattribute.lookup
  have f4 := F.slot_int_getattribute.bind (.int n t)
  have f5 := am_int_getattr_none
  unfold getAttr getAttrBy
  repeat (any_goals (first | assumption | exact hT _ | ((with_reducible show wpAny _ _ (call (Value.builtin "int.__getattribute__") _ _) _ _ _); refine call_meets F.slot_int_getattribute (hT _) am_entry_int_getattribute (F.args_int_getattribute_2 _ _) (meets_int e1 n t name _ hmiss hsz) ⟨hA, H, fun h' tk' e hx => ?_⟩) | ((with_reducible show codeAny _ _ (Code.call (Value.builtin "int.__getattribute__") _) _ _); fail "call") | wp_step))
  obtain ⟨t', u', he⟩ := hx.there
  show wpAny _ _ (getattributeRaised _ _ _ _ _ _ _) _ _ _
  unfold getattributeRaised
  repeat (any_goals (first | assumption | wp_step))
  exact h _ _ _ hx
theorem miss_list {a : Addr} {xs : Array Value} {k : Nat} {sl : Array (Option Value)} (hx : s.heap.get? a = some { cls := .type "list", dict := none, data := .seq xs k, slots := sl }) (hname : (["__module__", "__name__", "__qualname__", "__doc__", "__annotations__"] : List Str).contains name = false) {Q : Value → Shared → Prop} (hmiss : typeLookup (.type "list") name = pure none) (hsz : name.length + 100 ≤ sizeLine) (hA : A.handled = some (.ref e1)) (H : Hand s.heap e1) (h : ∀ h' tk e, NewAE s.heap h' e e1 name (.ref a) → E (.ref e) { s with heap := h', toks := tk }) :
    wpAny (model prog w) A (getAttr (.ref a) name) Q E s := by
  obtain ⟨hp, g, d, tk, os⟩ := s
  have hT : ∀ tk', (⟨hp, g, d, tk', os⟩ : Shared).TypeIs (.ref a) "list" := fun _ => ⟨_, hx, rfl⟩
  have f1 := sub_AttributeError
  have f3 := F.slot_list_getattribute.lookup
  have f4 := F.slot_list_getattribute.bind (.ref a)
  have f5 := am_list_getattr_none
  unfold getAttr getAttrBy
  repeat (any_goals (first | assumption | exact hT _ | ((with_reducible show wpAny _ _ (call (Value.builtin "list.__getattribute__") _ _) _ _ _); refine call_meets F.slot_list_getattribute (hT _) am_entry_list_getattribute (F.args_list_getattribute_2 _ _) (meets_list e1 a xs k sl name _ hmiss hname hsz) ⟨hx, hA, H, fun h' tk' e hx' => ?_⟩) | ((with_reducible show codeAny _ _ (Code.call (Value.builtin "list.__getattribute__") _) _ _); fail "call") | wp_step))
  obtain ⟨t', u', he⟩ := hx'.there
  show wpAny _ _ (getattributeRaised _ _ _ _ _ _ _) _ _ _
  unfold getattributeRaised
  repeat (any_goals (first | assumption | wp_step))
  exact h _ _ _ hx'
theorem miss_dict {a : Addr} {es : Array DictEntry} {k : Nat} {sl : Array (Option Value)} (hx : s.heap.get? a = some { cls := .type "dict", dict := none, data := .dict es k, slots := sl }) (hname : (["__module__", "__name__", "__qualname__", "__doc__", "__annotations__"] : List Str).contains name = false) {Q : Value → Shared → Prop} (hmiss : typeLookup (.type "dict") name = pure none) (hsz : name.length + 100 ≤ sizeLine) (hA : A.handled = some (.ref e1)) (H : Hand s.heap e1) (h : ∀ h' tk e, NewAE s.heap h' e e1 name (.ref a) → E (.ref e) { s with heap := h', toks := tk }) :
    wpAny (model prog w) A (getAttr (.ref a) name) Q E s := by
  obtain ⟨hp, g, d, tk, os⟩ := s
  have hT : ∀ tk', (⟨hp, g, d, tk', os⟩ : Shared).TypeIs (.ref a) "dict" := fun _ => ⟨_, hx, rfl⟩
  have f1 := sub_AttributeError
  have f3 := F.slot_dict_getattribute.lookup
  have f4 := F.slot_dict_getattribute.bind (.ref a)
  have f5 := am_dict_getattr_none
  unfold getAttr getAttrBy
  repeat (any_goals (first | assumption | exact hT _ | ((with_reducible show wpAny _ _ (call (Value.builtin "dict.__getattribute__") _ _) _ _ _); refine call_meets F.slot_dict_getattribute (hT _) am_entry_dict_getattribute (F.args_dict_getattribute_2 _ _) (meets_dict e1 a es k sl name _ hmiss hname hsz) ⟨hx, hA, H, fun h' tk' e hx' => ?_⟩) | ((with_reducible show codeAny _ _ (Code.call (Value.builtin "dict.__getattribute__") _) _ _); fail "call") | wp_step))
  obtain ⟨t', u', he⟩ := hx'.there
  show wpAny _ _ (getattributeRaised _ _ _ _ _ _ _) _ _ _
  unfold getattributeRaised
  repeat (any_goals (first | assumption | wp_step))
  exact h _ _ _ hx'
end
abbrev titleS : Str := Str.ofString "title"
theorem title_none : typeLookup (.type "NoneType") titleS = pure none := am_miss_of_fast (by decide +kernel)
theorem title_int : typeLookup (.type "int") titleS = pure none := am_miss_of_fast (by decide +kernel)
theorem title_list : typeLookup (.type "list") titleS = pure none := am_miss_of_fast (by decide +kernel)
theorem title_dict : typeLookup (.type "dict") titleS = pure none := am_miss_of_fast (by decide +kernel)
theorem title_len : titleS.length + 100 ≤ sizeLine := by
  have h1 : sizeLine = 16777216 := rfl
  have h2 : titleS.length = 5 := by decide +kernel
  omega
theorem title_plain : (["__module__", "__name__", "__qualname__", "__doc__", "__annotations__"] : List Str).contains titleS = false := by decide +kernel
end Mine
end
section
open PySem PySem.W PyProof.Rows
open PySem.Builtin PySem.Builtin.Str
namespace Mine

inductive Odd (h : Heap) : Value → Prop
  | none : Odd h .none
  | int (n : Int) (t : Tok) : Odd h (.int n t)
  | list (a : Addr) (xs : Array Value) (k : Nat) (sl : Array (Option Value)) (ha : h.get? a = some { cls := .type "list", dict := none, data := .seq xs k, slots := sl }) : Odd h (.ref a)
  | dict (a : Addr) (es : Array DictEntry) (k : Nat) (sl : Array (Option Value)) (ha : h.get? a = some { cls := .type "dict", dict := none, data := .dict es k, slots := sl }) : Odd h (.ref a)
theorem Odd.keeps {h h' : Heap} {v : Value} (o : Odd h v) (k : ∀ a ob, v = .ref a → h.get? a = some ob → h'.get? a = some ob) : Odd h' v := by
  cases o with
  | none => exact .none
  | int n t => exact .int n t
  | list a xs k' sl ha => exact .list a xs k' sl (k _ _ rfl ha)
  | dict a es k' sl ha => exact .dict a es k' sl (k _ _ rfl ha)

section
variable {prog : Program} {w : World} {A : Around} {E : Value → Shared → Prop} {h : Heap} {g : Array GenState} {d : Drawn} {tk : Nat} {os : OsState} {B S : Heap} {L f : Addr} {cd : Value} {outer : List Env} {m : Str → Option Value} {Q : Flow → Shared → Prop}
  {x : Str} {v : Value} {tx : Tok}

theorem odd_title {Q : Value × List Value → Shared → Prop} {s : Shared} {e1 : Addr} {pl : Sem Bool} (o : Odd s.heap v) (hA : A.handled = some (.ref e1)) (H : Hand s.heap e1) (h : ∀ h' tk e, NewAE s.heap h' e e1 titleS v → E (.ref e) { s with heap := h', toks := tk }) :
    wpAny (model prog w) A (getMethod v titleS pl) Q E s := by
  cases o with
  | none => exact usual (T := "NoneType") rfl F.plainAttrs_NoneType title_none (miss_none title_none title_len hA H h)
  | int n t => exact usual (T := "int") (typeIs_int s n t) F.plainAttrs_int title_int (miss_int title_int title_len hA H h)
  | list a xs k' sl ha => exact usual (T := "list") ⟨_, ha, rfl⟩ F.plainAttrs_list title_list (miss_list ha title_plain title_list title_len hA H h)
  | dict a es k' sl ha => exact usual (T := "dict") ⟨_, ha, rfl⟩ F.plainAttrs_dict title_dict (miss_dict ha title_plain title_dict title_len hA H h)

theorem flight {e1 e2 : Addr} {cls : Value} {vs : Array Value} {sl : Array (Option Value)} {n0 : Str} {pos : Pos}
    (hfr : A.frames = some outer) (U : Und B S outer L) (I8 : Inv B S outer L m h) (hlo : (envE L f cd).kindOf n0 = some .local) (se2 : S.get? e2 = none)
    (ex8 : h.get? e2 = some ⟨cls, none, .fields vs, sl⟩) (h1 : vs[1]? = some .none)
    (hE : ∀ h' T m' tk, Inv B S outer L m' h' → h'.get? e2 = some ⟨cls, none, .fields (vs.setIfInBounds 1 (.ref T)), sl⟩ → T ≠ e2 → S.get? T = none → TB h' T (rawInt L) → E (.ref e2) ⟨h', g, d, tk, os⟩) :
    AsSuiteRaised (model prog w) ((A.deeper (envE L f cd)).mark (some (.ref e1))) (envE L f cd) n0 pos (notedBy (model prog w) ((A.deeper (envE L f cd)).mark (some (.ref e1))) (envE L f cd) (cameBackBy (model prog w) (A.deeper (envE L f cd)) (envE L f cd) E))
      (.ref e2) ⟨h, g, d, tk, os⟩ := by
  have hkm : (envE L f cd).scope.kind ≠ .module := by show encScope.kind ≠ .module; decide
  have hfr'' : ((A.deeper (envE L f cd)).mark (some (.ref e1))).frames = some (envE L f cd :: outer) := Around.frames_deeper hfr
  have hv1 : 1 < vs.size := (Array.getElem?_eq_some_iff.mp h1).1
  refine note_first hfr'' (I8.ff U hkm rfl) rfl ex8 h1 fun h9 Tb2 T9 hl9 hTn9 hTe9 ex9 tb9 => ?_
  have hg1 : (vs.setIfInBounds 1 (.ref Tb2))[1]? = some (.ref Tb2) := by simp [hv1]
  have hfld8 : ∀ o, h.get? e2 = some o → ∃ vs, o.data = .fields vs := fun o ho => by rw [ex8] at ho; cases ho; exact ⟨_, rfl⟩
  have I9 := I8.step U T9 (by intro a ha; rw [List.mem_singleton.mp ha]; exact ⟨se2, hfld8⟩)
  refine wpAny_nameGoes (env := envE L f cd) hlo I9.F.ns (by rfl) fun h10 m10 hn10 hs10 => ?_
  have I10 := I9.store U hn10 hs10
  have notL : ∀ {h : Heap} {m : Str → Option Value} {a : Addr} {o : Obj}, h.Ns L m → h.get? a = some o → (∀ es n, o.data ≠ .dict es n) → a ≠ L := fun hns ho hd' q => by
    obtain ⟨o', es, ep, ho', hd2, _⟩ := hns
    rw [q, ho'] at ho; cases ho; exact hd' _ _ hd2
  have ex10 := (hs10.2 e2 (notL I9.F.ns ex9 (fun _ _ q => by cases q))).trans ex9
  have tb10 : TB h10 Tb2 (rawInt L) := by
    obtain ⟨oT, ts, a1, a2, a3⟩ := tb9
    exact ⟨oT, ts, (hs10.2 Tb2 (notL I9.F.ns a1 (fun _ _ q => by rw [a2] at q; cases q))).trans a1, a2, a3⟩
  have sT2 := I8.fresh hTn9
  dsimp only
  unfold PySem.passOn
  refine wpAny_bind (wpAny_field ex10 rfl (x := .ref Tb2) hg1 ?_)
  rw [if_neg (show ¬ ((Value.ref Tb2 == Value.none) = true) by simp)]
  refine wpAny_bind (set_flight ex10 (T := Tb2) hg1 tb10 fun h11 u11 tb11 => wpAny_throw ?_)
  have I11 := I10.up1 U u11 sT2 tb10.fields
  have ex11 := (u11.same e2 (Ne.symm hTe9)).trans ex10
  refine note_again (T := Tb2) rfl ex11 hg1 tb11 ?_
  refine wpAny_bind (wpAny_field ex11 rfl (x := .ref Tb2) hg1 ?_)
  rw [if_neg (show ¬ ((Value.ref Tb2 == Value.none) = true) by simp)]
  refine set_flight ex11 (T := Tb2) hg1 tb11 fun h12 u12 tb12 => ?_
  exact hE h12 Tb2 _ _ (I11.up1 U u12 sT2 tb11.fields) ((u12.same e2 (Ne.symm hTe9)).trans ex11) hTe9 sT2 tb12

theorem odd_body (hfr : A.frames = some outer) (hh : A.handled = none) (U : Und B S outer L) (I : Inv B S outer L m h) (N : Names B)
    (hd : m "data" = some (.str x tx)) (hn : m "name" = some v) (ho : Odd S v) (hof : ∀ a, v = .ref a → a ∉ outer.filterMap (·.frame)) (hx : Fine x)
    (hok : lo x.cps.toList = x.cps.toList.length → ∀ tk tk', Q (.ret (.bytes (x.cps.toList.map (·.toUInt8)).toArray tk')) ⟨h, g, d, tk, os⟩)
    (hbad : lo x.cps.toList < x.cps.toList.length → ∀ h' e T t cx nm tk, (∃ m', Inv B S outer L m' h') → S.get? e = none →
      h'.get? e = some { cls := .type "AttributeError", data := .fields #[t, .ref T, cx, .none, .bool false, .none, nm, v] } → T ≠ e → S.get? T = none → TB h' T (rawInt L) → E (.ref e) ⟨h', g, d, tk, os⟩) :
    wpAny (model prog w) (A.deeper (envE L f cd)) (execs encBody (envE L f cd)) Q E ⟨h, g, d, tk, os⟩ := by
  have hsl : sizeLine = 16777216 := rfl
  refine wpAny_execs_cons (wpAny_Try_except ?_)
  refine wpAny_execs_cons (wpAny_Return_some (MethodCall_ (ld I.F hd (gm_encode ?_))))
  refine callWith_method1 ?_
  refine spliced_more (Calls.Constant_str (spliced_none ?_))
  refine call_encode hh (by have := hx.1; omega) (fun hlo tk' => ?_) (fun hlo h1 e1 t0 q1 q3 q4 q5 tk1 M1 => ?_)
  · exact hok hlo _ _
  · have hfr' : (A.deeper (envE L f cd)).frames = some (envE L f cd :: outer) := Around.frames_deeper hfr
    have hkm : (envE L f cd).scope.kind ≠ .module := by show encScope.kind ≠ .module; decide
    have I1 := I.stays U M1.keeps
    have se1 := I.fresh M1.new
    have st0 := I.fresh M1.newT
    refine note_first hfr' (I1.ff U hkm rfl) rfl M1.exc rfl fun h2 Tb1 T2 hl2 hTn2 hTe2 ex2 tb2 => ?_
    have I2 := I1.step U T2 (by intro a ha; rw [List.mem_singleton.mp ha]; exact ⟨se1, fun o ho => by rw [M1.exc] at ho; cases ho; exact ⟨_, rfl⟩⟩)
    have sT1 := I1.fresh hTn2
    refine set_flight ex2 (T := Tb1) rfl tb2 fun h3 u3 tb3 => ?_
    have I3 := I2.up1 U u3 sT1 tb2.fields
    have ex3 := (u3.same e1 (Ne.symm hTe2)).trans ex2
    replace ex3 : UeAt h3 e1 (.ref t0) (.ref Tb1) .none .none (.bool false) .none (Str.ofString "latin-1") x (Str.ofString "ordinal not in range(256)") (lo x.cps.toList) (hi x.cps.toList) q1 tx q5 := ex3
    refine wpAny_handleBy_builtin_as (X := "UnicodeEncodeError") (T := "UnicodeEncodeError") (b := true) ue_raise.isExc ue_notTuple ue_new.sub (ld_uee I3.F N ⟨rfl, ⟨_, ex3, rfl⟩, ?_⟩)
    rw [if_pos rfl]
    refine set_flight ex3 (T := Tb1) rfl tb3 fun h4 u4 tb4 => ?_
    have I4 := I3.up1 U u4 sT1 tb3.fields
    have ex4 := (u4.same e1 (Ne.symm hTe2)).trans ex3
    refine wpAny_storeName_local (s := ⟨h4, g, d, _, os⟩) (env := envE L f cd) (by rfl) I4.F.ns (fun h5 hn5 hs5 => ?_) (by rfl)
    have I5 := I4.store U hn5 hs5
    have e1L : e1 ≠ L := fun q => by
      obtain ⟨o, es, ep, ho, hd', _⟩ := I4.F.ns
      rw [← q, ex4] at ho; cases ho; cases hd'
    have ex5 : UeAt h5 e1 (.ref t0) (.ref Tb1) .none .none (.bool false) .none (Str.ofString "latin-1") x (Str.ofString "ordinal not in range(256)") (lo x.cps.toList) (hi x.cps.toList) q1 tx q5 := (hs5.2 e1 e1L).trans ex4
    refine wpAny_execs_cons ?_
    rw [arm_exec_Raise]
    refine wpAny_bind (wpAny_standAt ?_)
    refine raise_from_none (e1 := e1) rfl (fun s Q hq => wpAny_bind (wpAny_Constant_none (wpAny_bind (wpAny_standAt (wpAny_pure hq))))) (wpAny_bind ?_)
    refine wpAny_Call_ofName (ld_uee I5.F N (callWith_excType (by rfl) (evalArgs_star ?_)))
    refine spliced_more (Attribute_name (ld I5.F (by rfl) (at_encoding ex5 ?_)))
    refine spliced_more (Attribute_name (ld I5.F (by rfl) (at_object ex5 ?_)))
    refine spliced_more (Attribute_name (ld I5.F (by rfl) (at_start ex5 ?_)))
    refine spliced_more (Attribute_name (ld I5.F (by rfl) (at_end ex5 ?_)))
    refine spliced_more (wpAny_JoinedStr ?_)
    have hn5' : (fun y => if y = Str.ofString "err" then some (Value.ref e1) else m y) (Str.ofString "name") = some v := (if_neg (by decide)).trans hn
    have ho5 : Odd h5 v := ho.keeps fun a ob ea eb => I5.K.keep a ob eb (by simp) (hof a ea)
    have H5 : Hand h5 e1 := ⟨_, _, _, _, ex5, rfl⟩
    refine FmtVal_s (MethodCall_ (ld I5.F hn5' (odd_title ho5 rfl H5 fun h6 tk6 e2 M6 => ?_)))
    obtain ⟨t', u', ex6⟩ := M6.there
    have I6 := I5.stays U M6.keeps
    have se2 := I5.fresh M6.new
    refine flight (m := fun y => if y = Str.ofString "err" then some (Value.ref e1) else m y) hfr U I6 (by rfl) se2 ex6 rfl fun h' T m' tk' I' ue' hT sT tb' => ?_
    exact hbad hlo h' e2 T t' (.ref e1) _ tk' ⟨m', I'⟩ se2 ue' hT sT tb'

theorem enc_call_odd {s : Shared} {R : Result → Shared → Prop} (hf : EncFn B f) (hfr : A.frames = some outer) (hh : A.handled = none) (hroom : A.depth < recursionLimit)
    (bs : B.StaysIn s.heap) (hsz : B.objs.size ≤ s.heap.objs.size) (bo : ∀ a ∈ outer.filterMap (·.frame), B.get? a = none) (so : s.heap.FunFrames noHeap outer) (N : Names B) (hlim : B.NoLimit)
    (ho : Odd s.heap v) (hof : ∀ a, v = .ref a → a ∉ outer.filterMap (·.frame)) (hx : Fine x)
    (hok : lo x.cps.toList = x.cps.toList.length → ∀ h' tk tk', Tch [] (outer.filterMap (·.frame)) s.heap h' → R (.ok (.ret (.bytes (x.cps.toList.map (·.toUInt8)).toArray tk'))) ⟨h', s.gens, s.drawn, tk, s.os⟩)
    (hbad : lo x.cps.toList < x.cps.toList.length → ∀ h' e T t cx nm tk, Tch [] (outer.filterMap (·.frame)) s.heap h' → s.heap.get? e = none → s.heap.get? T = none →
      h'.get? e = some { cls := .type "AttributeError", data := .fields #[t, .ref T, cx, .none, .bool false, .none, nm, v] } → T ≠ e → TB h' T .none → R (.error (.ref e)) ⟨h', s.gens, s.drawn, tk, s.os⟩) :
    codeAny (model prog w) A (.call (.ref f) ⟨[.str x tx, v], []⟩) R s := by
  obtain ⟨o, oT, T, kV, doc, pm, cdv, ct, an, kt, ho', hd, hcd, hT, hTd⟩ := hf
  refine codeAny_call_def (fd := encFd (.ref T) kV doc pm cdv ct an) (body := encBody) hroom (bs _ _ ho') hd (hlim.keeps bs) (hcd.keeps bs) rfl
    (.of_defaults (T := T) (o := oT) (n := 0) rfl (bs _ _ hT) hTd rfl rfl) (show ∀ x ∈ encScope.names, x.2 ≠ .cell by decide) (locs (scope := encScope) (binds := [(Str.ofString "data", .str x tx), (Str.ofString "name", v)]) rfl) (fun h0 hns k0 => ?_) rfl rfl rfl
  have U : Und B s.heap outer s.heap.objs.size := ⟨bs, bo, Heap.get?_none_of_le (Nat.le_refl _), so⟩
  have I : Inv B s.heap outer s.heap.objs.size _ h0 := ⟨⟨hns, fun b o e => k0 b o (bs b o e), hsz⟩, Tch.of_stays k0⟩
  refine odd_body (L := s.heap.objs.size) (f := f) (cd := cdv) (m := _) hfr hh U I N rfl rfl ho hof hx (fun hlo tk tk' => ?_) (fun hlo h' e T t cx nm tk IE se ue hT sT tb => ?_)
  · exact hok hlo _ _ _ I.K
  · obtain ⟨m', I'⟩ := IE
    unfold PySem.leaving
    refine wpAny_bind (note_again (T := T) rfl ue rfl tb ?_)
    refine set_flight ue (T := T) rfl tb fun h2 u2 tb2 => ?_
    have I2 := I'.up1 U u2 sT tb.fields
    exact hbad hlo h2 e T t cx nm tk I2.K se sT ((u2.same e (Ne.symm hT)).trans ue) hT tb2
end
end Mine
end
section
open PySem PySem.W PyProof.Rows
open PySem.Builtin PySem.Builtin.Str
namespace Mine

def isL (c : Nat) : Bool := (97 ≤ c && c ≤ 122) || (65 ≤ c && c ≤ 90)
def up (c : Nat) : Nat := if 97 ≤ c ∧ c ≤ 122 then c - 32 else c
def down (c : Nat) : Nat := if 65 ≤ c ∧ c ≤ 90 then c + 32 else c
def ttl : Bool → List Nat → List Nat
  | _, [] => []
  | b, c :: r => (if b then down c else up c) :: ttl (isL c) r
theorem ttl_len : ∀ (b : Bool) (l : List Nat), (ttl b l).length = l.length
  | _, [] => rfl
  | b, c :: r => by simp [ttl, ttl_len]
theorem ttl_take : ∀ (b : Bool) (l : List Nat) (k : Nat), (ttl b l).take k = ttl b (l.take k)
  | _, [], k => by simp [ttl]
  | b, c :: r, 0 => by simp [ttl]
  | b, c :: r, k + 1 => by simp [ttl, ttl_take]
def lastL (b : Bool) (l : List Nat) : Bool := (l.getLast?.map isL).getD b
theorem lastL_cons (b : Bool) (c : Nat) (r : List Nat) : lastL b (c :: r) = lastL (isL c) r := by
  unfold lastL
  cases r with
  | nil => rfl
  | cons d r' => rw [List.getLast?_cons_cons]; cases h : (d :: r').getLast? with
    | none => simp at h
    | some x => rfl
theorem ttl_snoc : ∀ (b : Bool) (l : List Nat) (c : Nat), ttl b (l ++ [c]) = ttl b l ++ [if lastL b l then down c else up c]
  | b, [], c => rfl
  | b, d :: r, c => by
    rw [List.cons_append, ttl, ttl, lastL_cons, ttl_snoc (isL d) r c]; rfl
theorem lastL_snoc (b : Bool) (l : List Nat) (c : Nat) : lastL b (l ++ [c]) = isL c := by
  unfold lastL; simp

theorem ascii_facts : ∀ c : Fin 128, Unicode.isCased c.val = isL c.val ∧ Unicode.titleOf c.val = [up c.val] ∧ Unicode.lowerOf c.val = [down c.val] := by decide +kernel

def tF (l : List Nat) (i c : Nat) : List Nat := if i > 0 && (l.toArray[i - 1]?).any Unicode.isCased then Unicode.lowerAt l.toArray i else Unicode.titleOf c
theorem tF_eq {l : List Nat} (h : ∀ c ∈ l, c < 128) {i c : Nat} (hc : l[i]? = some c) : tF l i c = [if i > 0 && (l[i - 1]?).any isL then down c else up c] := by
  have hcl := ascii_facts ⟨c, h c (List.mem_of_getElem? hc)⟩
  unfold tF
  have e1 : (l.toArray[i - 1]?).any Unicode.isCased = (l[i - 1]?).any isL := by
    rw [List.getElem?_toArray]
    cases hp : l[i - 1]? with
    | none => rfl
    | some d => exact (ascii_facts ⟨d, h d (List.mem_of_getElem? hp)⟩).1
  rw [e1]
  have e2 : Unicode.lowerAt l.toArray i = [down c] := by
    unfold Unicode.lowerAt
    rw [List.getElem?_toArray, hc]
    dsimp only
    have hc2 := h c (List.mem_of_getElem? hc)
    rw [if_neg (by intro q; simp at q; omega)]
    exact hcl.2.2
  split
  · exact e2
  · exact hcl.2.1
theorem title_walk {l : List Nat} (h : ∀ c ∈ l, c < 128) : ∀ (r pre : List Nat), l = pre ++ r → (r.mapIdx fun i c => tF l (i + pre.length) c).flatten = ttl (lastL false pre) r
  | [], pre, _ => rfl
  | c :: r, pre, e => by
    have hc : l[pre.length]? = some c := by rw [e]; simp
    rw [List.mapIdx_cons, List.flatten_cons, Nat.zero_add, tF_eq h hc]
    have ih := title_walk h r (pre ++ [c]) (by rw [e]; simp)
    have e2 : (r.mapIdx fun i c => tF l (i + 1 + pre.length) c) = (r.mapIdx fun i c => tF l (i + (pre ++ [c]).length) c) := by
      congr 1; funext i d; congr 1; simp; omega
    rw [lastL_snoc] at ih
    have e3 : (decide (pre.length > 0) && (l[pre.length - 1]?).any isL) = lastL false pre := by
      unfold lastL
      cases hp : pre.getLast? with
      | none => rw [List.getLast?_eq_none_iff] at hp; subst hp; rfl
      | some d =>
        have hpos : 0 < pre.length := by cases pre with
          | nil => simp at hp
          | cons => simp
        have : l[pre.length - 1]? = some d := by rw [e, List.getElem?_append_left (by omega), ← List.getLast?_eq_getElem?]; exact hp
        rw [this]; simp [hpos]
    rw [ttl, e3]
    simp only [List.singleton_append]
    congr 1
    rw [← ih]
    congr 1
    congr 1
    funext i d
    congr 1
    simp; omega
theorem map_mapIdx' {α β γ : Type} (f : Nat → α → β) (g : β → γ) (l : List α) : (l.mapIdx f).map g = l.mapIdx (fun i a => g (f i a)) := by
  apply List.ext_getElem?
  intro i
  simp
  rfl
theorem title_ascii {x : Str} (h : ∀ c ∈ x.cps.toList, c < 128) : Txt.title x = ⟨(ttl false x.cps.toList).toArray⟩ := by
  have := title_walk h x.cps.toList [] rfl
  apply str_ext
  show ((x.cps.mapIdx _).flatten).toList = _
  rw [Array.toList_flatten, Array.toList_mapIdx, map_mapIdx']
  show _ = (ttl false x.cps.toList).toArray.toList
  rw [List.toList_toArray]
  rw [show (lastL false []) = false from rfl] at this
  rw [← this]
  rfl
end Mine
end
section
open PySem PySem.W PyProof.Rows
open PySem.Builtin PySem.Builtin.Str
namespace Mine

def stmt8 (i : Nat) : Stmt := (PySem.Challenge.pw_km0023_08.main.body[i]?).getD (.Pass ⟨0, 0, 0, 0⟩)
def lawBody : List Stmt := bodyOf (stmt8 5)
def lawScope : Scope := scopeOf (stmt8 5)
def valueOf : Stmt → PySem.Expr
  | .Assign _ v _ => v
  | _ => .Constant .none 0 ⟨0, 0, 0, 0⟩
def leftOf : PySem.Expr → PySem.Expr
  | .BinOp l _ _ _ => l
  | _ => .Constant .none 0 ⟨0, 0, 0, 0⟩
abbrev envL (L f : Addr) (cd : Value) : Env := envOf (Str.ofString "law") lawScope L f cd
def joinExpr : PySem.Expr := leftOf (valueOf (nth lawBody 0))

def letters : Str := Str.ofString "abcdefghijklmnopqrstuvwxyzABCDEFGHIJKLMNOPQRSTUVWXYZ"
def code8 (a : Int) : Nat := if a.fmod 2 = 0 then (letters.cps.getD ((a.fdiv 2).fmod 52).toNat 0) else ((a.fdiv 2).fmod 128).toNat
theorem letters_lt : ∀ k : Fin 52, letters.cps.getD k.val 0 < 128 := by decide +kernel
theorem letters_len : letters.length = 52 := by decide +kernel
theorem code8_lt (a : Int) : code8 a < 128 := by
  unfold code8
  split
  · have h0 : 0 ≤ (a.fdiv 2).fmod 52 := Int.fmod_nonneg_of_pos _ (by decide)
    have h1 : (a.fdiv 2).fmod 52 < 52 := Int.fmod_lt_of_pos _ (by decide)
    exact letters_lt ⟨((a.fdiv 2).fmod 52).toNat, by omega⟩
  · have h0 : 0 ≤ (a.fdiv 2).fmod 128 := Int.fmod_nonneg_of_pos _ (by decide)
    have h1 : (a.fdiv 2).fmod 128 < 128 := Int.fmod_lt_of_pos _ (by decide)
    omega
section
variable {prog : Program} {w : World} {A : Around} {E : Value → Shared → Prop} {s : Shared} {B : Heap} {f : Addr}
theorem sign8_call {a : Int} {ta : Tok} {R : Result → Shared → Prop} (hf : FnIs B f (Str.ofString "_law_sign") (stmt8 3)) (hroom : A.depth < recursionLimit) (bs : B.StaysIn s.heap) (hlim : B.NoLimit)
    (gchr : GlobalIs B "chr" (.builtin "chr"))
    (h : ∀ h' tk k, s.heap.StaysIn h' → R (.ok (.ret (.str ⟨#[code8 a]⟩ k))) { s with heap := h', toks := tk }) :
    codeAny (model prog w) A (.call (.ref f) ⟨[.int a ta], []⟩) R s := by
  refine fn_call (binds := [(Str.ofString "x", .int a ta)]) hf hroom bs hlim (fun _ _ _ _ _ => rfl) (by decide) (by exact locs (scope := scopeOf (stmt8 3)) (binds := [(Str.ofString "x", .int a ta)]) rfl) rfl rfl rfl (fun h1 cd F => ?_)
  refine wpAny_execs_cons (wpAny_If (wpAny_isTrue_Compare1 (wpAny_BinOp (ld F rfl (wpAny_Constant_int (mod_int' (by decide) (wpAny_Constant_int (eq_int (wpAny_truthy_bool ?_)))))))))
  by_cases hc : a.fmod 2 = 0
  · rw [if_pos (by simpa using hc)]
    have hm : 0 ≤ (a.fdiv 2).fmod 52 ∧ (a.fdiv 2).fmod 52 < 52 := ⟨Int.fmod_nonneg_of_pos _ (by decide), Int.fmod_lt_of_pos _ (by decide)⟩
    refine wpAny_execs_cons (wpAny_Return_some (Subscript_ (Calls.Constant_str (wpAny_BinOp (wpAny_BinOp (ld F rfl (wpAny_Constant_int (floordiv_int (by decide) (wpAny_Constant_int (mod_int' (by decide) ?_))))))))))
    have hlen := letters_len
    refine item_str (x := letters) (fitsSsize_of (N := 9223372036854775808) (by omega) (by omega) (Int.le_refl _)) (by omega) (by omega) (fun _ => ?_)
    have e : Txt.item letters ((a.fdiv 2).fmod 52) = ⟨#[code8 a]⟩ := by
      rw [eq_of_beq (item_closes (x := letters) (i := (a.fdiv 2).fmod 52) ⟨by omega, by omega⟩)]
      unfold code8
      rw [if_pos hc]
    dsimp only
    rw [e]
    exact h _ _ _ F.keep
  · rw [if_neg (by simpa using hc)]
    refine wpAny_execs_nil ?_
    have hm : 0 ≤ (a.fdiv 2).fmod 128 ∧ (a.fdiv 2).fmod 128 < 128 := ⟨Int.fmod_nonneg_of_pos _ (by decide), Int.fmod_lt_of_pos _ (by decide)⟩
    refine wpAny_execs_cons (wpAny_Return_some (Call_ (ld_global gchr (fun b o e => F.keep b o (bs b o e)) (PyProof.Rows.callWith_builtin1 (spliced_more (wpAny_BinOp (wpAny_BinOp (ld F rfl (wpAny_Constant_int (floordiv_int (by decide) (wpAny_Constant_int (mod_int' (by decide) (spliced_none (chr_of_range (by omega) (by omega) ?_))))))))))))))
    have e : code8 a = ((a.fdiv 2).fmod 128).toNat := if_neg hc
    rw [e] at h
    exact h _ _ _ F.keep

def text8 (ns : List Int) : Str := ⟨(ns.map code8).toArray⟩
theorem strs_of_paired {F : Value → Value → Prop} {g : Int → Str} (hF : ∀ v y, F v y → ∃ a t u, v = .int a t ∧ y = .str (g a) u) :
    ∀ {vs ys : List Value} {ns : List Int}, Paired F vs ys → IntsAre vs ns → StrsAre ys (ns.map g)
  | _, _, _, .nil, h => by cases h; exact .nil
  | _, _, _, .cons hab hr, h => by
    cases h with
    | cons i t hi =>
      obtain ⟨a, t', u, e1, rfl⟩ := hF _ _ hab
      cases e1
      exact .cons _ _ (strs_of_paired hF hr hi)
theorem len_ones (g : Int → Nat) : ∀ ns : List Int, ((ns.map fun a => (⟨#[g a]⟩ : Str)).map (·.length)).sum = ns.length
  | [] => rfl
  | a :: r => by
    have ih := len_ones g r
    have : (⟨#[g a]⟩ : Str).length = 1 := rfl
    simp only [List.map_cons, List.sum_cons, List.length_cons, this] at ih ⊢
    omega
theorem int_of_mem : ∀ {vs : List Value} {ns : List Int} {v : Value}, IntsAre vs ns → v ∈ vs → ∃ a t, v = .int a t
  | _, _, _, .nil, h => nomatch h
  | _, _, _, .cons n t hr, h => by
    rcases List.mem_cons.mp h with rfl | h
    · exact ⟨_, _, rfl⟩
    · exact int_of_mem hr h

variable {L fS l : Addr} {cd : Value} {m : Str → Option Value}
theorem text8_ev {Q : Value → Shared → Prop} {vs : List Value} {ns : List Int} (hh : A.handled = none) (hroom : A.depth < recursionLimit)
    (F : Fr B L s.heap m) (hm : m "script" = some (.ref l)) (hl : B.IsList l vs.toArray) (hI : IntsAre vs ns) (hn : ns.length ≤ 63) (hlim : B.NoLimit)
    (hS : FnIs B fS (Str.ofString "_law_sign") (stmt8 3)) (gS : GlobalIs B "_law_sign" (.ref fS)) (gchr : GlobalIs B "chr" (.builtin "chr"))
    (hq : ∀ h' tk k, s.heap.StaysIn h' → Q (.str (text8 ns) k) { s with heap := h', toks := tk }) :
    wpAny (model prog w) A (eval joinExpr (envL L f cd)) Q E s := by
  refine MethodCall_ (Calls.Constant_str (GM.join (callWith_method1 (spliced_more ?_))))
  refine wpAny_ListComp_map (fun _ => true) (fun v y => ∃ a t u, v = .int a t ∧ y = .str ⟨#[code8 a]⟩ u) hh (by decide) (by decide) rfl (by decide) rfl ?_
  have hsl : sizeLine = 16777216 := rfl
  have hvl := hI.length
  refine ld F hm ⟨l, vs.toArray, rfl, ?_, ?_, ?_, ?_, ?_⟩
  · obtain ⟨o, ho, r⟩ := hl
    exact ⟨o, F.keep _ _ ho, r⟩
  · rw [List.size_toArray]; omega
  · intro C v s2 m2 E' hv hn2 hm2 hk2
    exact wpAny_pure ⟨rfl, s2.heap, s2.toks, rfl, fun _ _ e => e⟩
  · intro C v s2 m2 E' hv hpv hn2 hm2 hk2
    obtain ⟨a, t, rfl⟩ := int_of_mem hI (by simpa using hv)
    have bs2 : B.StaysIn s2.heap := fun b o e => hk2 b o (F.keep b o e)
    obtain ⟨o, doc, pm, cdv, ct, an, ho, hdat, hcd⟩ := id hS
    refine Call_ (ld_global gS bs2 (callWith_def hdat (spliced_more (wpAny_Name (wpAny_loadName_local rfl rfl hn2 hm2 (spliced_none ⟨bs2 _ _ ho, ?_⟩)) (by decide)))))
    refine wpAny_call (sign8_call hS hroom bs2 hlim gchr fun h' tk k st => ?_)
    exact ⟨⟨a, t, k, rfl, rfl⟩, h', tk, rfl, st⟩
  · intro D h' tk ys hD hys hp hk
    have hst : StrsAre ys.toList (ns.map fun a => (⟨#[code8 a]⟩ : Str)) := strs_of_paired (fun _ _ x => x) (by rw [show vs.toArray.toList.filter (fun _ => true) = vs from List.filter_eq_self.mpr fun _ _ => rfl] at hp; exact hp) hI
    refine spliced_none (join_listC hys hst (by decide +kernel) ?_ fun k2 tk2 => ?_)
    · have e2 := len_ones code8 ns
      rw [List.length_map]
      omega
    · have e3 : Txt.join (Str.ofString "") (ns.map fun a => (⟨#[code8 a]⟩ : Str)) = text8 ns := by
        have e4 : Str.ofString "" = ⟨#[]⟩ := by decide +kernel
        rw [show (ns.map fun a => (⟨#[code8 a]⟩ : Str)) = (ns.map code8).map (fun k => (⟨#[k]⟩ : Str)) from by rw [List.map_map]; rfl, e4]
        show Builtin.Str.glued _ _ = _
        rw [StrLaws.glued_eq_join]
        exact join_ones _
      rw [e3]
      exact hq _ _ _ (fun b o e => hk b o e)
end
end Mine
end
section
open PySem PySem.W PyProof.Rows
open PySem.Builtin PySem.Builtin.Str
namespace Mine

def shownB : List Stmt := bodyOf (stmt8 4)
def shownScope : Scope := scopeOf (stmt8 4)
def shownLoop : List Stmt := forBodyOf (nth shownB 2)
abbrev envS (L f : Addr) (cd : Value) : Env := envOf (Str.ofString "_law_shown") shownScope L f cd
theorem lit_str (l : List Nat) (c : Nat) : (⟨l.toArray⟩ : Str) ++ (⟨#[c]⟩ : Str) = ⟨(l ++ [c]).toArray⟩ := by
  apply str_ext
  show ((l.toArray ++ #[c]) : Array Nat).toList = _
  simp

section
variable {prog : Program} {w : World} {A : Around} {E : Value → Shared → Prop} {s : Shared} {B h : Heap} {f L : Addr} {g : Array GenState} {d : Drawn} {tk : Nat} {os : OsState} {cd : Value} {m : Str → Option Value}

theorem between {p q : Int} {c : Nat} {k : Tok} {n : Str} {a1 a2 : Nat} {p1 p2 p3 pos : Pos} {whole : Sem Value} {Q : Bool → Shared → Prop} (F : Fr B L s.heap m) (mc : m n = some (.int c k)) (hq : ∀ tk, Q (decide (p ≤ c) && decide ((c : Int) ≤ q)) { s with toks := tk })
    (hn : (envS L f cd).kindOf n = some .local := by rfl) (hd : (n == ("__debug__" : Str)) = false := by decide) :
    wpAny (model prog w) A (isTrue (.Compare (.Constant (.int p) a1 p1) [.LtE, .LtE] [.Name n p2, .Constant (.int q) a2 p3] pos) (envS L f cd) whole) Q E s := by
  refine isTrue_chain (wpAny_Constant_int (test_link (wpAny_Name (wpAny_loadName_local rfl hn (F.ns) mc (PyProof.Rows.le_int (wpAny_truthy_bool ?_))) hd)))
  by_cases h1 : p ≤ (c : Int)
  · rw [if_pos (by simpa using h1)]
    refine test_last (wpAny_Constant_int (PyProof.Rows.le_int (wpAny_truthy_bool ?_)))
    have := hq
    rw [decide_eq_true h1, Bool.true_and] at this
    exact this _
  · rw [if_neg (by simpa using h1)]
    have := hq
    rw [decide_eq_false h1, Bool.false_and] at this
    exact this _

theorem shown_turn {l : List Nat} {b : Bool} {c : Nat} {u k1 : Tok} (gord : GlobalIs B "ord" (.builtin "ord")) (gchr : GlobalIs B "chr" (.builtin "chr")) (F : Fr B L h m) (hc : c < 128) (hl : l.length ≤ 100000)
    (ms : m "sign" = some (.str ⟨#[c]⟩ u)) (mh : m "shown" = some (.str ⟨l.toArray⟩ k1)) (mi : m "inside" = some (.bool b)) :
    wpAny (model prog w) A (execs shownLoop (envS L f cd)) (fun fl s3 => fl = .next ∧ ∃ m3 h3 tk3, s3 = ⟨h3, g, d, tk3, os⟩ ∧ Fr B L h3 m3 ∧ Kp [L] h h3 ∧
      (∃ k, m3 "shown" = some (.str ⟨(l ++ [if b then down c else up c]).toArray⟩ k)) ∧ m3 "inside" = some (.bool (isL c))) E ⟨h, g, d, tk, os⟩ := by
  have hsl : sizeLine = 16777216 := rfl
  have hll : (⟨l.toArray⟩ : Str).length ≤ 100000 := by show l.toArray.size ≤ _; simpa using hl
  have h1l : ∀ c, (⟨#[c]⟩ : Str).length = 1 := fun _ => rfl
  refine wpAny_execs_cons (wpAny_Assign_Name (Call_ (ld_global gord F.keep (PyProof.Rows.callWith_builtin1 (spliced_more (ld F ms (spliced_none (PySem.P.ord_of_char ?_))))))))
  refine storeN F (fun h2 F2 K2 => ?_)
  dsimp only
  refine wpAny_execs_cons (wpAny_If (between (c := c) F2 ue fun tk2 => ?_))
  by_cases hA : 97 ≤ c ∧ c ≤ 122
  · have hi : isL c = true := by unfold isL; simp [hA.1, hA.2]
    have hup : up c = c - 32 := if_pos hA
    have hdn : down c = c := if_neg (by omega)
    rw [if_pos (by simp; omega)]
    refine wpAny_execs_cons (wpAny_Assign_Name (wpAny_BinOp (ld F2 (un mh) (IfExp_ (wpAny_isTrue_value (ld F2 (un mi) (wpAny_truthy_bool ?_)))))))
    cases b with
    | true =>
      rw [if_pos rfl]
      refine ld F2 (un ms) (PyProof.Rows.add_str (hsz := by have := h1l c; omega) fun ka tka => ?_)
      dsimp only
      refine storeN F2 (fun h3 F3 K3 => ?_)
      refine wpAny_execs_cons (wpAny_Assign_Name (Constant_bool (storeN F3 (fun h4 F4 K4 => ?_))))
      refine wpAny_execs_nil (wpAny_execs_nil ⟨rfl, _, _, _, rfl, F4, (K2.trans K3).trans K4, ⟨ka, by rw [show (if true = true then down c else up c) = c from (if_pos rfl).trans hdn, ← lit_str]; exact un ue⟩, by rw [hi]; exact ue⟩)
    | false =>
      rw [if_neg (by decide)]
      refine Call_ (ld_global gchr F2.keep (PyProof.Rows.callWith_builtin1 (spliced_more (wpAny_BinOp (ld F2 ue (wpAny_Constant_int (sub_int (spliced_none (chr_of_range (by omega) (by omega) ?_)))))))))
      have e32 : ((c : Int) - 32).toNat = c - 32 := by omega
      dsimp only
      rw [e32]
      refine PyProof.Rows.add_str (hsz := by have := h1l (c - 32); omega) fun ka tka => ?_
      dsimp only
      refine storeN F2 (fun h3 F3 K3 => ?_)
      refine wpAny_execs_cons (wpAny_Assign_Name (Constant_bool (storeN F3 (fun h4 F4 K4 => ?_))))
      refine wpAny_execs_nil (wpAny_execs_nil ⟨rfl, _, _, _, rfl, F4, (K2.trans K3).trans K4, ⟨ka, by rw [show (if false = true then down c else up c) = c - 32 from (if_neg (by decide)).trans hup, ← lit_str]; exact un ue⟩, by rw [hi]; exact ue⟩)
  · rw [if_neg (by simp; omega)]
    refine wpAny_execs_cons (wpAny_If (between (c := c) F2 ue fun tk3 => ?_))
    by_cases hB : 65 ≤ c ∧ c ≤ 90
    · have hi : isL c = true := by unfold isL; simp [hB.1, hB.2]
      have hup : up c = c := if_neg hA
      have hdn : down c = c + 32 := if_pos hB
      rw [if_pos (by simp; omega)]
      refine wpAny_execs_cons (wpAny_Assign_Name (wpAny_BinOp (ld F2 (un mh) (IfExp_ (wpAny_isTrue_value (ld F2 (un mi) (wpAny_truthy_bool ?_)))))))
      cases b with
      | true =>
        rw [if_pos rfl]
        refine Call_ (ld_global gchr F2.keep (PyProof.Rows.callWith_builtin1 (spliced_more (wpAny_BinOp (ld F2 ue (wpAny_Constant_int (add_int (spliced_none (chr_of_range (by omega) (by omega) ?_)))))))))
        have e32 : ((c : Int) + 32).toNat = c + 32 := by omega
        dsimp only
        rw [e32]
        refine PyProof.Rows.add_str (hsz := by have := h1l (c + 32); omega) fun ka tka => ?_
        dsimp only
        refine storeN F2 (fun h3 F3 K3 => ?_)
        refine wpAny_execs_cons (wpAny_Assign_Name (Constant_bool (storeN F3 (fun h4 F4 K4 => ?_))))
        refine wpAny_execs_nil (wpAny_execs_nil (wpAny_execs_nil ⟨rfl, _, _, _, rfl, F4, (K2.trans K3).trans K4, ⟨ka, by rw [show (if true = true then down c else up c) = c + 32 from (if_pos rfl).trans hdn, ← lit_str]; exact un ue⟩, by rw [hi]; exact ue⟩))
      | false =>
        rw [if_neg (by decide)]
        refine ld F2 (un ms) (PyProof.Rows.add_str (hsz := by have := h1l c; omega) fun ka tka => ?_)
        dsimp only
        refine storeN F2 (fun h3 F3 K3 => ?_)
        refine wpAny_execs_cons (wpAny_Assign_Name (Constant_bool (storeN F3 (fun h4 F4 K4 => ?_))))
        refine wpAny_execs_nil (wpAny_execs_nil (wpAny_execs_nil ⟨rfl, _, _, _, rfl, F4, (K2.trans K3).trans K4, ⟨ka, by rw [show (if false = true then down c else up c) = c from (if_neg (by decide)).trans hup, ← lit_str]; exact un ue⟩, by rw [hi]; exact ue⟩))
    · have hi : isL c = false := by unfold isL; simp; omega
      have hup : up c = c := if_neg hA
      have hdn : down c = c := if_neg hB
      rw [if_neg (by simp; omega)]
      refine wpAny_execs_cons (wpAny_Assign_Name (wpAny_BinOp (ld F2 (un mh) (ld F2 (un ms) (PyProof.Rows.add_str (hsz := by have := h1l c; omega) fun ka tka => ?_)))))
      dsimp only
      refine storeN F2 (fun h3 F3 K3 => ?_)
      refine wpAny_execs_cons (wpAny_Assign_Name (Constant_bool (storeN F3 (fun h4 F4 K4 => ?_))))
      refine wpAny_execs_nil (wpAny_execs_nil (wpAny_execs_nil ⟨rfl, _, _, _, rfl, F4, (K2.trans K3).trans K4, ⟨ka, by rw [show (if b = true then down c else up c) = c from by rw [hup, hdn, ite_self], ← lit_str]; exact un ue⟩, by rw [hi]; exact ue⟩))

theorem take_snoc {l : List Nat} {i c : Nat} (h : l[i]? = some c) : l.take (i + 1) = l.take i ++ [c] := by
  rw [List.take_add_one, h]; rfl

theorem shown_call {x : Str} {tx : Tok} {R : Result → Shared → Prop} (hf : FnIs B f (Str.ofString "_law_shown") (stmt8 4)) (hh : A.handled = none) (hroom : A.depth < recursionLimit) (bs : B.StaysIn s.heap) (hlim : B.NoLimit)
    (gord : GlobalIs B "ord" (.builtin "ord")) (gchr : GlobalIs B "chr" (.builtin "chr")) (hx : ∀ c ∈ x.cps.toList, c < 128) (hl : x.length ≤ 100000)
    (h : ∀ h' tk k, s.heap.StaysIn h' → R (.ok (.ret (.str ⟨(ttl false x.cps.toList).toArray⟩ k))) { s with heap := h', toks := tk }) :
    codeAny (model prog w) A (.call (.ref f) ⟨[.str x tx], []⟩) R s := by
  refine fn_call (binds := [(Str.ofString "name", .str x tx)]) hf hroom bs hlim (fun _ _ _ _ _ => rfl) (by decide) (by exact locs (scope := scopeOf (stmt8 4)) (binds := [(Str.ofString "name", .str x tx)]) rfl) rfl rfl rfl (fun h1 cd F => ?_)
  have hBL : s.heap.get? s.heap.objs.size = none := Heap.get?_none_of_le (Nat.le_refl _)
  refine wpAny_execs_cons (wpAny_Assign_Name (Calls.Constant_str (storeN F (fun h2 F2 K2 => ?_))))
  refine wpAny_execs_cons (wpAny_Assign_Name (Constant_bool (storeN F2 (fun h3 F3 K3 => ?_))))
  refine wpAny_execs_cons (wpAny_For (ld F3 rfl (wpAny_pyIter_str fun o St W st4 => ?_)))
  dsimp only
  have f1 : h3.get? h3.objs.size = none := Heap.get?_none_of_le (Nat.le_refl _)
  have hBI : s.heap.get? h3.objs.size = none := by
    cases q : s.heap.get? h3.objs.size with
    | none => rfl
    | some o => have := F3.keep _ _ q; rw [f1] at this; cases this
  have hIL : h3.objs.size ≠ s.heap.objs.size := fun q => by obtain ⟨o, es, ep, ho, _⟩ := F3.ns; rw [← q, f1] at ho; cases ho
  have F5 := F3.push o
  have hxl : x.cps.toList.length = x.length := Array.length_toList
  refine for_law (ws := []) (W (A.deeper (envS s.heap.objs.size f cd)) hh) (L := s.heap.objs.size) (B := s.heap) (h0 := h3.push o)
    (fun q => hIL (List.mem_singleton.mp q).symm) (fun q => hIL (List.mem_singleton.mp q).symm) (fun b hb => by rw [List.mem_singleton.mp hb]; exact hBI) (fun b hb => nomatch hb) hBL rfl rfl rfl
    (fun i m' h' => (∃ k, m' "shown" = some (.str ⟨(ttl false (x.cps.toList.take i)).toArray⟩ k)) ∧ m' "inside" = some (.bool (lastL false (x.cps.toList.take i)))) (fun i m' h h' j _ => j) F5 st4
    ⟨⟨_, un ue⟩, ue⟩ ?_ ?_
  · rintro i m1 h6 tk6 v E' hi ⟨⟨k1, j1⟩, j2⟩ ⟨c, u, hc, rfl⟩ F6 K6
    rw [← Array.getElem?_toList] at hc
    have hc' : c < 128 := hx c (List.mem_of_getElem? hc)
    refine wpAny_mono (shown_turn (l := ttl false (x.cps.toList.take i)) (c := c) (u := u) (gord.keeps bs) (gchr.keeps bs) F6 hc' (by rw [ttl_len, List.length_take]; omega) ue (un j1) (un j2)) (fun fl s3 hs => ?_) fun _ _ q => q
    obtain ⟨rfl, m3, h3, tk3, rfl, F7, K7, ⟨k, e1⟩, e2⟩ := hs
    refine ⟨rfl, m3, h3, tk3, rfl, F7, K7, ⟨k, ?_⟩, ?_⟩
    · rw [take_snoc hc, ttl_snoc]; exact e1
    · rw [take_snoc hc, lastL_snoc]; exact e2
  · rintro m6 h6 tk6 ⟨⟨k1, j1⟩, j2⟩ F6 K6
    have e : x.cps.toList.take x.cps.size = x.cps.toList := List.take_of_length_le (by simp)
    rw [e] at j1
    exact wpAny_execs_cons (wpAny_Return_some (ld F6 j1 (h h6 tk6 k1 F6.keep)))
end
end Mine
end
section
open PySem PySem.W PyProof.Rows
open PySem.Builtin PySem.Builtin.Str
namespace Mine

def tail8 : Str := Str.ofString "iT's x1Y_z"
def name8 (ns : List Int) : Str := text8 ns ++ tail8
theorem app_list (x y : Str) : (x ++ y).cps.toList = x.cps.toList ++ y.cps.toList := by
  show (x.cps ++ y.cps).toList = _
  simp
theorem text8_len (ns : List Int) : (text8 ns).length = ns.length := by
  show ((ns.map code8).toArray).size = _
  simp
theorem tail8_len : tail8.length = 10 := by decide +kernel
theorem name8_len (ns : List Int) : (name8 ns).length = ns.length + 10 := by
  unfold name8; rw [Str.length_append, text8_len, tail8_len]
theorem name8_ascii {ns : List Int} : ∀ c ∈ (name8 ns).cps.toList, c < 128 := fun c h => by
  unfold name8 at h
  rw [app_list] at h
  rcases List.mem_append.mp h with h | h
  · have : c ∈ ns.map code8 := by simpa [text8] using h
    obtain ⟨a, _, rfl⟩ := List.mem_map.mp this
    exact code8_lt a
  · exact (by decide +kernel : ∀ c ∈ tail8.cps.toList, c < 128) c h

def shown8 (ns : List Int) : Str := ⟨(ttl false (name8 ns).cps.toList).toArray⟩
theorem shown8_len (ns : List Int) : (shown8 ns).length = ns.length + 10 := by
  show ((ttl false (name8 ns).cps.toList).toArray).size = _
  rw [List.size_toArray, ttl_len]
  have : (name8 ns).cps.toList.length = (name8 ns).length := Array.length_toList
  rw [this, name8_len]
theorem title_pre (ns : List Int) (k : Nat) : Txt.title (pre (name8 ns) k) = pre (shown8 ns) k := by
  rw [title_ascii (fun c h => name8_ascii c (List.mem_of_mem_take (by rw [pre_list] at h; exact h)))]
  apply str_ext
  rw [pre_list, pre_list]
  show (ttl false ((name8 ns).cps.toList.take k)).toArray.toList = List.take k ((ttl false (name8 ns).cps.toList).toArray.toList)
  rw [List.toList_toArray, List.toList_toArray, ttl_take]

def euros (k : Nat) : Str := ⟨(List.replicate k 8364).toArray⟩
def data8 (k : Nat) : Str := (Str.ofString "p" ++ euros k) ++ Str.ofString "q"
theorem data8_facts : ∀ k : Fin 4, 0 < k.val → loS (data8 k.val) = 1 ∧ hiS (data8 k.val) = 1 + k.val ∧ (data8 k.val).cps.toList.length = k.val + 2 ∧ (data8 k.val).length = k.val + 2 ∧ (∀ c ∈ (data8 k.val).cps.toList, c < 16 ^ 8) ∧
    (Str.ofString " (").cps.toList ++ (cut20 (reprText (mid (data8 k.val) (loS (data8 k.val)) (hiS (data8 k.val))))).cps.toList ++ (Str.ofString ") is not valid Latin-1. Use ").cps.toList =
    (Str.ofString " ('").cps.toList ++ (euros k.val).cps.toList ++ (Str.ofString "') is not valid Latin-1. Use ").cps.toList ∧ (euros k.val).length = k.val := by decide +kernel
abbrev encodeS : Str := Str.ofString ".encode('utf-8') if you want to send it encoded in UTF-8."
def words8 (ns : List Int) (e k : Nat) : Str := ((((pre (shown8 ns) k ++ Str.ofString " ('") ++ euros e) ++ Str.ofString "') is not valid Latin-1. Use ") ++ pre (name8 ns) k) ++ encodeS
theorem words8_eq (ns : List Int) {e : Nat} (k : Nat) (he : 0 < e ∧ e < 4) : encWords (pre (name8 ns) k) (data8 e) = words8 ns e k := by
  have h6 := (data8_facts ⟨e, he.2⟩ he.1).2.2.2.2.2.1
  apply str_ext
  unfold encWords words8
  rw [title_pre]
  simp only [app_list, List.append_assoc] at h6 ⊢
  have e0 : Str.empty.cps.toList = [] := rfl
  rw [e0, List.nil_append]
  congr 1
  have := congrArg (· ++ ((pre (name8 ns) k).cps.toList ++ encodeS.cps.toList)) h6
  simpa only [List.append_assoc] using this
theorem title_len8 (ns : List Int) (k : Nat) : (pre (name8 ns) k).length ≤ ns.length + 10 := by
  have h1 : (name8 ns).cps.toList.length = (name8 ns).length := Array.length_toList
  have h2 := name8_len ns
  show ((name8 ns).cps.toList.take k).toArray.size ≤ _
  rw [List.size_toArray, List.length_take]; omega
theorem shown_len8 (ns : List Int) (k : Nat) : (pre (shown8 ns) k).length ≤ ns.length + 10 := by
  have h1 : (shown8 ns).cps.toList.length = (shown8 ns).length := Array.length_toList
  have h2 := shown8_len ns
  show ((shown8 ns).cps.toList.take k).toArray.size ≤ _
  rw [List.size_toArray, List.length_take]; omega
theorem mul_euro : ∀ k : Fin 4, 0 < k.val → Txt.mul (Str.ofString "€") (k.val : Int) = euros k.val := by decide +kernel
end Mine
end
section
open PySem PySem.W PyProof.Rows
open PySem.Builtin PySem.Builtin.Str
namespace Mine

def handlerB : Stmt → List Stmt
  | .Try _ [.ExceptHandler _ _ b _] _ _ _ => b
  | _ => []
def tryB : Stmt → List Stmt
  | .Try b _ _ _ _ => b
  | _ => []
def turnB : List Stmt := forBodyOf (nth lawBody 4)
def checkB : List Stmt := handlerB (nth turnB 3)

structure Ctx (B : Heap) (L : Addr) : Prop where
  bl : B.get? L = none
  lim : B.NoLimit
  names : Names B
  fn : ∃ f, EncFn B f ∧ GlobalIs B "_encode" (.ref f)
  shown : ∃ f, FnIs B f (Str.ofString "_law_shown") (stmt8 4) ∧ GlobalIs B "_law_shown" (.ref f)
  sign : ∃ f, FnIs B f (Str.ofString "_law_sign") (stmt8 3) ∧ GlobalIs B "_law_sign" (.ref f)
  gx : GlobalIs B "UnicodeEncodeError" (.type "UnicodeEncodeError")
  gae : GlobalIs B "AttributeError" (.type "AttributeError")
  gex : GlobalIs B "Exception" (.type "Exception")
  gchr : GlobalIs B "chr" (.builtin "chr")
  gord : GlobalIs B "ord" (.builtin "ord")
  glen : GlobalIs B "len" (.builtin "len")
  gsum : GlobalIs B "sum" (.builtin "sum")
  grange : GlobalIs B "range" (.type "range")
  gtype : GlobalIs B "type" (.type "type")
  gbytes : GlobalIs B "bytes" (.type "bytes")

section
variable {prog : Program} {w : World} {A : Around} {E : Value → Shared → Prop} {s : Shared} {B h : Heap} {f L : Addr} {g : Array GenState} {d : Drawn} {tk : Nat} {os : OsState} {cd : Value} {m : Str → Option Value}

theorem ne5 {p q : Addr} {a x c : Str} {i j : Int} {a1 a2 a3 a4 a5 b1 b2 b3 b4 b5 : Tok} {Q : Value → Shared → Prop}
    (hp : s.heap.get? p = some { cls := .type "tuple", data := .seq #[.str a a1, .str x a2, .int i a3, .int j a4, .str c a5] })
    (hq : s.heap.get? q = some { cls := .type "tuple", data := .seq #[.str a b1, .str x b2, .int i b3, .int j b4, .str c b5] }) (hu : A.units < cLine) (h : Q (.bool false) s) :
    wpAny (model prog w) A (compareOp .NotEq (.ref p) (.ref q)) Q E s := by
  refine (?_ : SeqAt.RcNeAt A s (.ref p) (.ref q) false) _ _ _ _ h
  refine SeqAt.RcNeAt.tuples (e := fun _ => true) ⟨_, hp, rfl, _, rfl⟩ ⟨_, hq, rfl, _, rfl⟩ hu fun k h1 h2 => ?_
  match k, h1, h2 with
  | 0, _, _ => have := SeqAt.EqAt.str_str (A := A.in1) (s := s) a a1 a b1; simpa using this
  | 1, _, _ => have := SeqAt.EqAt.str_str (A := A.in1) (s := s) x a2 x b2; simpa using this
  | 2, _, _ => have := SeqAt.EqAt.int_int (A := A.in1) (s := s) i a3 i b3; simpa using this
  | 3, _, _ => have := SeqAt.EqAt.int_int (A := A.in1) (s := s) j a4 j b4; simpa using this
  | 4, _, _ => have := SeqAt.EqAt.str_str (A := A.in1) (s := s) c a5 c b5; simpa using this

theorem type_ev {v : Value} {T : String} {np ap pos : Pos} {n : Str} {Q : Value → Shared → Prop} (C : Ctx B L) (F : Fr B L s.heap m) (ms : m n = some v) (hv : s.TypeIs v T) (hT : (Value.type T == Value.type "builtin_function_or_method") = false)
    (hq : Q (.type T) s) (k1 : (envL L f cd).kindOf n = some .local := by rfl) (d1 : (n == ("__debug__" : Str)) = false := by decide) :
    wpAny (model prog w) A (eval (.Call (.Name "type" np) [.Name n ap] [] pos) (envL L f cd)) Q E s :=
  Call_ (ld_global C.gtype F.keep (PyProof.Rows.callWith_type1 (spliced_more (wpAny_Name (wpAny_loadName_local rfl k1 F.ns ms (spliced_none (call_type_of hv hT hq))) d1))))

theorem check_ok {e t r : Addr} {v1 v2 v3 v4 v5 : Value} {x c : Str} {i j : Int} {t1 t2 t3 t4 t5 b1 b2 b3 b4 b5 : Tok} (C : Ctx B L) (hu : A.units + 64 < cLine) (F : Fr B L h m) (me : m "err" = some (.ref e)) (mr : m "row" = some (.ref r))
    (ue' : UeAt h e (.ref t) v1 v2 v3 v4 v5 latinS x c i j t1 t2 t5) (ht : h.get? t = some { cls := .type "tuple", data := .seq (ueArgs latinS x c i j t1 t2 t3 t4 t5).toArray })
    (hr : h.get? r = some { cls := .type "tuple", data := .seq #[.str latinS b1, .str x b2, .int i b3, .int j b4, .str c b5] }) :
    wpAny (model prog w) A (execs checkB (envL L f cd)) (fun fl s' => ∃ h2 m2 tk2, s' = ⟨h2, g, d, tk2, os⟩ ∧ Fr B L h2 m2 ∧ Kp [L] h h2 ∧ fl = .next ∧ ∀ y : Str, y ≠ "told" → m2 y = m y) E ⟨h, g, d, tk, os⟩ := by
  have hsl : sizeLine = 16777216 := rfl
  refine wpAny_execs_cons (wpAny_Assign_Name (Tuple_ ?_))
  refine spliced_more (Attribute_name (ld F me (at_encoding ue' ?_)))
  refine spliced_more (Attribute_name (ld F me (at_object ue' ?_)))
  refine spliced_more (Attribute_name (ld F me (at_start ue' ?_)))
  refine spliced_more (Attribute_name (ld F me (at_end ue' ?_)))
  refine spliced_more (Attribute_name (ld F me (at_reason ue' (spliced_none (wpAny_newTuple ?_)))))
  dsimp only
  generalize hto : ({ cls := .type "tuple", data := .seq _ } : Obj) = tobj
  have hp := Heap.get?_push_size h (o := tobj) (by rw [← hto]; rfl)
  refine storeN (F.push tobj) (fun h2 F2 K2 => ?_)
  have ke : ∀ {b o}, h.get? b = some o → (∀ es n, o.data ≠ .dict es n) → h2.get? b = some o := fun e hd => K2.get (F.push tobj).ns (Heap.get?_push_of_some _ e) hd
  have hp2 := K2.get (F.push tobj).ns hp (fun _ _ q => by rw [← hto] at q; cases q)
  have ue2 : UeAt h2 e (.ref t) v1 v2 v3 v4 v5 latinS x c i j t1 t2 t5 := ke ue' (fun _ _ q => by cases q)
  have ht2 := ke ht (fun _ _ q => by cases q)
  have hr2 := ke hr (fun _ _ q => by cases q)
  subst hto
  refine wpAny_execs_cons (wpAny_If (wpAny_isTrue_BoolOp (wpAny_allTrue_Or_cons (wpAny_isTrue_Compare1 (type_ev C F2 (un me) (T := "UnicodeEncodeError") ⟨_, ue2, rfl⟩ (by decide) (ld_global C.gx F2.keep (isnot_type_same (wpAny_truthy_bool ?_))))))))
  rw [if_neg (by decide)]
  refine wpAny_allTrue_Or_cons (wpAny_isTrue_Compare1 (ld F2 ue (ld F2 (un mr) (ne5 hp2 hr2 (by omega) (wpAny_truthy_bool ?_)))))
  rw [if_neg (by decide)]
  refine wpAny_allTrue_Or_cons (wpAny_isTrue_Compare1 (Attribute_name (ld F2 (un me) (at_args ue2 (ld F2 (un mr) (ne5 ht2 hr2 (by omega) (wpAny_truthy_bool ?_)))))))
  rw [if_neg (by decide)]
  refine wpAny_allTrue_Or_nil ?_
  rw [if_neg (by decide)]
  exact wpAny_execs_nil (wpAny_execs_nil ⟨h2, _, _, rfl, F2, (Kp.of_stays fun b o e => Heap.get?_push_of_some _ e).trans K2, rfl, fun y hy => if_neg hy⟩)
end
end Mine
end
section
open PySem PySem.W PyProof.Rows
open PySem.Builtin PySem.Builtin.Str
namespace Mine

section
variable {prog : Program} {w : World} {A : Around} {E : Value → Shared → Prop} {s : Shared} {B h : Heap} {f L : Addr} {g : Array GenState} {d : Drawn} {tk : Nat} {os : OsState} {cd : Value} {m : Str → Option Value}

def thingE : PySem.Expr := valueOf (nth turnB 4)

theorem thing_ev {nm : Str} {k1 k2 : Tok} {sz : Nat} {Q : Value → Shared → Prop} (F : Fr B L h m) (mn : m "name" = some (.str nm k1)) (ms : m "size" = some (.int sz k2)) (hsz : sz < 2 ^ 62)
    (hq : ∀ h' v tk, h.StaysIn h' → Odd h' v → (∀ a, v = .ref a → a ≠ L) → Q v ⟨h', g, d, tk, os⟩) :
    wpAny (model prog w) A (eval thingE (envL L f cd)) Q E ⟨h, g, d, tk, os⟩ := by
  have hsl : sizeLine = 16777216 := rfl
  refine Subscript_ (List_ (spliced_more (wpAny_Constant_none (spliced_more (ld F ms (spliced_more (List_ (spliced_more (ld F mn (spliced_none (wp_newList (by show 1 ≤ sizeLine; omega) ?_))))))))))) 
  dsimp only
  generalize hlo : ({ cls := .type "list", data := .seq _ } : Obj) = lobj
  have F1 := F.push lobj
  have hl1 := Heap.get?_push_size h (o := lobj) (by rw [← hlo]; rfl)
  refine spliced_more (PyProof.Rows.Dict_made (knd := strKind prog w) F1 rfl rfl (by intro q; cases q) (by decide) fun F2 => ?_)
  refine evalPairs_cons (ld F2 mn (wpAny_bind (ld F2 ms (wpAny_bind (wpAny_standAt (wpAny_pure (evalPairs_nil ⟨[(nm, .int sz k2)], ?_, Heap.DictOf.new _, fun h3 hd hs => ?_⟩)))))))
  · exact ⟨by show Value.isStrOf nm (.str nm k1) = true; simp [Value.isStrOf], rfl, trivial⟩
  dsimp only
  obtain ⟨dob, es, ep, hdo, hex, hdd, _⟩ := hd
  have hdn : (h.push lobj).get? (h.push lobj).objs.size = none := Heap.get?_none_of_le (Nat.le_refl _)
  have K3 : (h.push lobj).StaysIn h3 := fun b o e => (hs.2 b (Nat.ne_of_lt (Heap.lt_size e))).trans (Heap.get?_push_of_some _ e)
  have F3 : Fr B L h3 m := ⟨F1.ns.keeps K3, fun b o e => K3 b o (F1.keep b o e), F1.above⟩
  refine spliced_none (wp_newList (by show 4 ≤ sizeLine; omega) ?_)
  dsimp only
  generalize htb : ({ cls := .type "list", data := .seq _ } : Obj) = tob
  have ht3 := Heap.get?_push_size h3 (o := tob) (by rw [← htb]; rfl)
  refine wpAny_BinOp (ld (F3.push tob) ms (wpAny_Constant_int (mod_int' (by decide) ?_)))
  dsimp only
  have KK : h.StaysIn (h3.push tob) := fun b o e => Heap.get?_push_of_some _ (K3 b o (Heap.get?_push_of_some _ e))
  have hL : ∀ {a : Addr}, h.get? a = none → a ≠ L := fun e q => by obtain ⟨o, es, ep, ho, _⟩ := F.ns; rw [← q, e] at ho; cases ho
  have o1 : Odd (h3.push tob) (.ref h.objs.size) := by
    have := Heap.get?_push_of_some tob (K3 _ _ hl1)
    rw [← hlo] at this
    exact .list _ _ _ _ this
  have o2 : Odd (h3.push tob) (.ref (h.push lobj).objs.size) := by
    obtain ⟨c1, c2, c3⟩ := hex
    obtain ⟨cls, dd, dat, sl⟩ := dob
    simp only at c1 c2 c3 hdd
    subst c1 c2 c3 hdd
    exact .dict _ _ _ _ (Heap.get?_push_of_some tob hdo)
  have hm : ((sz : Int).fmod 4) = ((sz % 4 : Nat) : Int) := by
    rw [Int.fmod_eq_emod_of_nonneg _ (by decide)]; omega
  have hlt : sz % 4 < 4 := Nat.mod_lt _ (by decide)
  rw [hm]
  have hl' : (h3.push tob).IsList h3.objs.size _ := ⟨_, ht3, by rw [← htb], _, by rw [← htb]⟩
  match hj : sz % 4, hlt with
  | 0, _ => exact sub_list hl' (by decide) (by decide) rfl (hq _ _ _ KK .none fun a e => nomatch e)
  | 1, _ => exact sub_list hl' (by decide) (by decide) rfl (hq _ _ _ KK (.int _ _) fun a e => nomatch e)
  | 2, _ => exact sub_list hl' (by decide) (by decide) rfl (hq _ _ _ KK o1 fun a e => by cases e; exact hL (Heap.get?_none_of_le (Nat.le_refl _)))
  | 3, _ => exact sub_list hl' (by decide) (by decide) rfl (hq _ _ _ KK o2 fun a e => by cases e; exact hL (Heap.get?_none_of_le (by rw [Heap.size_push]; exact Nat.le_succ _)))
end
end Mine
end
section
open PySem PySem.W PyProof.Rows
open PySem.Builtin PySem.Builtin.Str
namespace Mine

section
variable {prog : Program} {w : World} {A : Around} {E : Value → Shared → Prop} {s : Shared} {B h : Heap} {f fe L : Addr} {g : Array GenState} {d : Drawn} {tk : Nat} {os : OsState} {cd : Value} {m : Str → Option Value} {x n : Str} {tx tn : Tok} {v : Value}

theorem law_ff (F : Fr B L h m) : h.FunFrames noHeap [envL L f cd] :=
  Heap.FunFrames.cons (by show lawScope.kind ≠ .module; decide) rfl F.ns (noHeap_get L) trivial
theorem law_keep {h' : Heap} (hbl : B.get? L = none) (F : Fr B L h m) (K : Tch [] [L] h h') : Fr B L h' m ∧ Kp [L] h h' :=
  ⟨⟨K.ns (by simp) F.ns, fun b o e => K.keep b o (F.keep b o e) (by simp) (fun q => by rw [List.mem_singleton.mp q] at e; rw [hbl] at e; cases e), F.above⟩, .of_tch K⟩

theorem call_enc2 {R : Result → Shared → Prop} (C : Ctx B L) (hf : EncFn B fe) (hfr : A.frames = some [envL L f cd]) (hh : A.handled = none) (hroom : A.depth < recursionLimit) (F : Fr B L h m) (hx : Fine x) (hnl : n.length ≤ 100000)
    (hok : loS x = x.cps.toList.length → ∀ h' tk k, Fr B L h' m → Kp [L] h h' → R (.ok (.ret (.bytes (octs x) k))) ⟨h', g, d, tk, os⟩)
    (hbad : loS x < x.cps.toList.length → ∀ h' e t T cx t1 t2 t3 t4 t5 tk, Fr B L h' m → Kp [L] h h' → h.get? e = none → h.get? T = none →
      UeAt h' e (.ref t) (.ref T) cx .none (.bool true) .none latinS x (encWords n x) (loS x) (hiS x) t1 t2 t5 → T ≠ e → TB h' T .none →
      h'.get? t = some { cls := .type "tuple", data := .seq (ueArgs latinS x (encWords n x) (loS x) (hiS x) t1 t2 t3 t4 t5).toArray } → R (.error (.ref e)) ⟨h', g, d, tk, os⟩) :
    codeAny (model prog w) A (.call (.ref fe) ⟨[.str x tx, .str n tn], []⟩) R ⟨h, g, d, tk, os⟩ := by
  have hlt : L < h.objs.size := F.ns.lt
  refine enc_call2 (outer := [envL L f cd]) hf hfr hh hroom F.keep (Nat.le_of_lt (Nat.lt_of_le_of_lt F.above hlt)) (fun a ha => by rw [List.mem_singleton.mp ha]; exact C.bl) (law_ff F) C.names C.lim hx hnl (fun hlo h' tk k K => ?_)
    fun hlo h' e t T cx t1 t2 t3 t4 t5 tk K ne nt nT ue hT tb tu => ?_
  · exact hok hlo h' tk k (law_keep C.bl F K).1 (law_keep C.bl F K).2
  · exact hbad hlo h' e t T cx t1 t2 t3 t4 t5 tk (law_keep C.bl F K).1 (law_keep C.bl F K).2 ne nT ue hT tb tu

theorem call_odd {R : Result → Shared → Prop} (C : Ctx B L) (hf : EncFn B fe) (hfr : A.frames = some [envL L f cd]) (hh : A.handled = none) (hroom : A.depth < recursionLimit) (F : Fr B L h m) (hx : Fine x) (ho : Odd h v) (hvL : ∀ a, v = .ref a → a ≠ L)
    (hok : loS x = x.cps.toList.length → ∀ h' tk k, Fr B L h' m → Kp [L] h h' → R (.ok (.ret (.bytes (octs x) k))) ⟨h', g, d, tk, os⟩)
    (hbad : loS x < x.cps.toList.length → ∀ h' e T t cx nm tk, Fr B L h' m → Kp [L] h h' → h.get? e = none → h.get? T = none →
      h'.get? e = some { cls := .type "AttributeError", data := .fields #[t, .ref T, cx, .none, .bool false, .none, nm, v] } → T ≠ e → TB h' T .none → R (.error (.ref e)) ⟨h', g, d, tk, os⟩) :
    codeAny (model prog w) A (.call (.ref fe) ⟨[.str x tx, v], []⟩) R ⟨h, g, d, tk, os⟩ := by
  have hlt : L < h.objs.size := F.ns.lt
  refine enc_call_odd (outer := [envL L f cd]) hf hfr hh hroom F.keep (Nat.le_of_lt (Nat.lt_of_le_of_lt F.above hlt)) (fun a ha => by rw [List.mem_singleton.mp ha]; exact C.bl) (law_ff F) C.names C.lim ho
    (fun a e q => hvL a e (List.mem_singleton.mp q)) hx (fun hlo h' tk k K => ?_) fun hlo h' e T t cx nm tk K ne nT ue hT tb => ?_
  · exact hok hlo h' tk k (law_keep C.bl F K).1 (law_keep C.bl F K).2
  · exact hbad hlo h' e T t cx nm tk (law_keep C.bl F K).1 (law_keep C.bl F K).2 ne nT ue hT tb

theorem ae_exc : isSubtype (.type "Exception") (.type "BaseException") = pure true := by rw [isSubtype_type]; kernel_rfl
theorem ae_notTuple : isSubtype (.type ((Manifest.find? "Exception").elim "type" fun x => x.metatype)) (.type "tuple") = pure false := by
  rw [show ((Manifest.find? "Exception").elim "type" fun x => x.metatype) = "type" from by kernel_rfl, isSubtype_type]; kernel_rfl
theorem ae_sub : isSubtype (.type "AttributeError") (.type "Exception") = pure true := by rw [isSubtype_type]; kernel_rfl

theorem fresh_B {p : Addr} (F : Fr B L h m) (e : h.get? p = none) : B.get? p = none := by
  cases q : B.get? p with
  | none => rfl
  | some o => have := F.keep _ _ q; rw [e] at this; cases this
def pe : Str := Str.ofString "pé"
theorem pe_facts : loS pe = pe.cps.toList.length ∧ Fine pe ∧ (octs pe).toList = [112, 233] := by
  refine ⟨by decide +kernel, ⟨by decide +kernel, by decide +kernel⟩, by decide +kernel⟩

theorem turn8 {ns : List Int} {ek k : Nat} {kn ks ke kt kz : Tok} (C : Ctx B L) (hfr : A.frames = some [envL L f cd]) (hh : A.handled = none) (hroom : A.depth < recursionLimit) (hu : A.units + 64 < cLine) (hn : ns.length ≤ 63) (he : 0 < ek ∧ ek < 4) (hk : k ≤ ns.length + 10)
    (F : Fr B L h m) (mn : m "name" = some (.str (name8 ns) kn)) (ms : m "shown" = some (.str (shown8 ns) ks)) (me : m "euros" = some (.str (euros ek) ke)) (mt : m "text" = some (.str (data8 ek) kt)) (mz : m "size" = some (.int k kz)) :
    wpAny (model prog w) A (execs turnB (envL L f cd)) (fun fl s3 => fl = .next ∧ ∃ m3 h3 tk3, s3 = ⟨h3, g, d, tk3, os⟩ ∧ Fr B L h3 m3 ∧ Kp [L] h h3 ∧
      m3 "name" = m "name" ∧ m3 "shown" = m "shown" ∧ m3 "euros" = m "euros" ∧ m3 "text" = m "text") E ⟨h, g, d, tk, os⟩ := by
  have hsl : sizeLine = 16777216 := rfl
  obtain ⟨q1, q2, q3, q4, q5, q6, q7⟩ := data8_facts ⟨ek, he.2⟩ he.1
  dsimp only at q1 q2 q3 q4 q5 q6 q7
  have hxf : Fine (data8 ek) := ⟨by omega, q5⟩
  have hnl := name8_len ns
  have hsh := shown8_len ns
  have p1 := title_len8 ns k
  have p2 := shown_len8 ns k
  have z1 : (Str.ofString " ('").length = 3 := by decide +kernel
  have z2 : (Str.ofString "') is not valid Latin-1. Use ").length = 29 := by decide +kernel
  have z3 : (Str.ofString ".encode('utf-8') if you want to send it encoded in UTF-8.").length = 57 := by decide +kernel
  refine wpAny_execs_cons (wpAny_Assign_Name (wpAny_BinOp (wpAny_BinOp (wpAny_BinOp (wpAny_BinOp ?_)))))
  refine Subscript_Slice (ld F ms (wpAny_Slice (evalPart_none_step (evalPart_some_step (ld F mz (evalPart_none_step ?_))))))
  refine SBH.sliceItem_ns (P := fun h' => h.StaysIn h') (fun h' ob k b o e => Heap.get?_push_of_some _ (k b o e)) (fun _ _ e => e) (fun h1 t1 k1 K1 => ?_) (by omega)
  rw [slice_pre _ (by omega)]
  have F1 : Fr B L h1 m := ⟨F.ns.keeps K1, fun b o e => K1 b o (F.keep b o e), F.above⟩
  refine Calls.Constant_str (PyProof.Rows.add_str (hsz := by omega) fun ka tka => ?_)
  refine ld F1 me (PyProof.Rows.add_str (hsz := by simp only [Str.length_append]; omega) fun kb tkb => ?_)
  refine Calls.Constant_str (PyProof.Rows.add_str (hsz := by simp only [Str.length_append]; omega) fun kc tkc => ?_)
  refine Subscript_Slice (ld F1 mn (wpAny_Slice (evalPart_none_step (evalPart_some_step (ld F1 mz (evalPart_none_step ?_))))))
  refine SBH.sliceItem_ns (P := fun h' => h1.StaysIn h') (fun h' ob k b o e => Heap.get?_push_of_some _ (k b o e)) (fun _ _ e => e) (fun h2 t2 k2 K2 => ?_) (by omega)
  rw [slice_pre _ (by omega)]
  have F2 : Fr B L h2 m := ⟨F1.ns.keeps K2, fun b o e => K2 b o (F1.keep b o e), F1.above⟩
  refine PyProof.Rows.add_str (hsz := by simp only [Str.length_append]; omega) fun kd tkd => ?_
  refine storeN F2 (fun h3 F3 K3 => ?_)
  refine wpAny_execs_cons (wpAny_Assign_Name (wpAny_BinOp (ld F3 ue (Calls.Constant_str (PyProof.Rows.add_str (hsz := by simp only [Str.length_append]; omega) fun kf tkf => ?_)))))
  dsimp only
  refine storeN F3 (fun h4 F4 K4 => ?_)
  have K04 : Kp [L] h h4 := (((Kp.of_stays K1).trans (.of_stays K2)).trans K3).trans K4
  refine wpAny_execs_cons (wpAny_Assign_Name (Tuple_ (spliced_more (Calls.Constant_str (spliced_more (ld F4 (un (un mt)) (spliced_more (wpAny_Constant_int (spliced_more (wpAny_BinOp (wpAny_Constant_int ?_)))))))))))
  refine Call_ (ld_global C.glen F4.keep (PyProof.Rows.callWith_builtin1 (spliced_more (ld F4 (un (un me)) (spliced_none (PyProof.Rows.len_str (by omega) ?_))))))
  refine add_int (spliced_more (ld F4 ue (spliced_none (wpAny_newTuple ?_ (by show 5 ≤ sizeLine; omega)))))
  dsimp only
  generalize hro : ({ cls := .type "tuple", data := .seq _ } : Obj) = robj
  have hr4 := Heap.get?_push_size h4 (o := robj) (by rw [← hro]; rfl)
  obtain ⟨b1, b2, b3, b4, b5, hrob⟩ : ∃ b1 b2 b3 b4 b5, robj = { cls := .type "tuple", data := .seq #[.str latinS b1, .str (data8 ek) b2, .int (loS (data8 ek)) b3, .int (hiS (data8 ek)) b4, .str (encWords (pre (name8 ns) k) (data8 ek)) b5] } := by
    rw [← hro, words8_eq ns k he, q1, q2, q7]
    rw [show (((1 + ek : Nat)) : Int) = 1 + (ek : Int) from Int.natCast_add 1 ek]
    exact ⟨_, _, _, _, _, rfl⟩
  rw [hrob] at hr4
  refine storeN (F4.push robj) (fun h5 F5 K5 => ?_)
  have hr5 := K5.get (F4.push robj).ns (by rw [hrob]; exact hr4) (fun _ _ q => by cases q)
  have K45 : Kp [L] h4 h5 := (Kp.of_stays fun b o e => Heap.get?_push_of_some _ e).trans K5
  have K05 := K04.trans K45
  clear hro hr4
  obtain ⟨fe, hfe, ge⟩ := C.fn
  obtain ⟨oE, oT, T0, kV, doc, pm, cdv, ct, an, kt0, hoE, hdE, _⟩ := id hfe
  generalize hm5 : (fun z => if z = Str.ofString "row" then some (Value.ref h4.objs.size) else _ : Str → Option Value) = m5 at F5
  have g5 : ∀ y : Str, y ≠ "row" → y ≠ "words" → m5 y = m y := fun y n1 n2 => by rw [← hm5]; exact (if_neg n1).trans ((if_neg n2).trans (if_neg n2))
  have gr : m5 "row" = some (.ref h4.objs.size) := by rw [← hm5]; exact ue
  clear hm5
  have gt := (g5 "text" (by decide) (by decide)).trans mt
  have gn := (g5 "name" (by decide) (by decide)).trans mn
  have gz := (g5 "size" (by decide) (by decide)).trans mz
  refine wpAny_execs_cons (wpAny_Try_except ?_)
  refine wpAny_execs_cons (wpAny_Expr (Call_ (ld_global ge F5.keep (callWith_def hdE (spliced_more (ld F5 gt (spliced_more ?_)))))))
  refine Subscript_Slice (ld F5 gn (wpAny_Slice (evalPart_none_step (evalPart_some_step (ld F5 gz (evalPart_none_step ?_))))))
  refine SBH.sliceItem_ns (P := fun h' => h5.StaysIn h') (fun h' ob k b o e => Heap.get?_push_of_some _ (k b o e)) (fun _ _ e => e) (fun h6 t6 k6 K6 => ?_) (by omega)
  rw [slice_pre _ (by omega)]
  have F6 : Fr B L h6 m5 := ⟨F5.ns.keeps K6, fun b o e => K6 b o (F5.keep b o e), F5.above⟩
  have hbadx : loS (data8 ek) < (data8 ek).cps.toList.length := by omega
  refine spliced_none ⟨F6.keep _ _ hoE, wpAny_call (call_enc2 C hfe hfr hh hroom F6 hxf (by omega) (fun hlo => absurd hlo (by omega)) ?_)⟩
  intro hlo h7 e t T cx t1 t2 t3 t4 t5 tk7 F7 K7 ne nT ue7 hTe tb7 tu7
  have hr6 := K6 _ _ hr5
  have hr7 := K7.get F6.ns hr6 (fun _ _ q => by cases q)
  have hre : h4.objs.size ≠ e := fun q => by rw [q, ne] at hr6; cases hr6
  have hrT : h4.objs.size ≠ T := fun q => by rw [q, nT] at hr6; cases hr6
  have hrL : h4.objs.size ≠ L := not_frame F6.ns hr6 (fun _ _ q => by cases q)
  have hte : t ≠ e := fun q => by rw [q, ue7] at tu7; have := congrArg Obj.data (Option.some.inj tu7); cases this
  have htT : t ≠ T := fun q => by
    obtain ⟨oT, ts, a1, a2, _⟩ := tb7
    rw [← q, tu7] at a1; cases a1; cases a2
  have htL : t ≠ L := not_frame F7.ns tu7 (fun _ _ q => by cases q)
  refine caught (Y := "UnicodeEncodeError") (P := fun fl m' => fl = .next ∧ ∀ y : Str, y ≠ "told" → m' y = if y = Str.ofString "err" then some (.ref e) else m5 y) hfr C.bl F7 C.gx (fresh_B F6 ne) (fresh_B F6 nT) ue7 rfl tb7 hTe ue_raise.isExc ue_notTuple ue_new.sub
    (fun h' tk' T' E' F' K' ex' => ?_) (fun fl h8 m8 v8 tk8 hP F8 K8 => ?_)
  · refine check_ok (e := e) (t := t) (r := h4.objs.size) C hu F' ue (un gr) ex' (K' _ _ tu7 (by simp [htL, hte, htT])) (K' _ _ hr7 (by simp [hrL, hre, hrT]))
  obtain ⟨rfl, hy8⟩ := hP
  have K68 : Kp [L] h6 h8 := K7.fresh K8 (by intro p hp; simp at hp; rcases hp with rfl | rfl | rfl <;> simp [ne, nT])
  have K08 : Kp [L] h h8 := (K05.trans (.of_stays K6)).trans K68
  generalize hm9 : (fun y => if y = Str.ofString "err" then v8 else m8 y) = m9 at F8
  have g9 : ∀ y : Str, y ≠ "err" → y ≠ "told" → y ≠ "row" → y ≠ "words" → m9 y = m y := fun y n1 n2 n3 n4 => by rw [← hm9]; exact (if_neg n1).trans ((hy8 y n2).trans ((if_neg n1).trans (g5 y n3 n4)))
  clear hm9
  dsimp only
  refine wpAny_execs_cons (wpAny_Assign_Name (thing_ev F8 ((g9 "name" (by decide) (by decide) (by decide) (by decide)).trans mn) ((g9 "size" (by decide) (by decide) (by decide) (by decide)).trans mz) (by omega) fun h10 v tk10 K10 ho10 hvL => ?_))
  have F10 : Fr B L h10 m9 := ⟨F8.ns.keeps K10, fun b o e => K10 b o (F8.keep b o e), F8.above⟩
  refine storeN F10 (fun h11 F11 K11 => ?_)
  have K1011 : Kp [L] h10 h11 := K11
  have o11 : Odd h11 v := ho10.keeps fun a ob ea eb => K11 a ob eb (by simpa using hvL a ea)
  have K011 := (K08.trans (.of_stays K10)).trans K11
  refine wpAny_execs_cons (wpAny_Assign_Name (Call_ (ld_global ge F11.keep (callWith_def hdE (spliced_more (Calls.Constant_str (spliced_more (ld F11 ue (spliced_none ⟨F11.keep _ _ hoE, wpAny_call ?_⟩)))))))))
  refine call_odd (x := pe) C hfe hfr hh hroom F11 pe_facts.2.1 o11 hvL (fun _ h12 tk12 kb F12 K12 => ?_) (fun hlo => absurd hlo (by rw [pe_facts.1]; omega))
  have o12 : Odd h12 v := o11.keeps fun a ob ea eb => K12 a ob eb (by simpa using hvL a ea)
  refine storeN F12 (fun h13 F13 K13 => ?_)
  have o13 : Odd h13 v := o12.keeps fun a ob ea eb => K13 a ob eb (by simpa using hvL a ea)
  have K013 := (K011.trans K12).trans K13
  refine wpAny_execs_cons (wpAny_If (wpAny_isTrue_BoolOp (wpAny_allTrue_Or_cons (wpAny_isTrue_Compare1 (type_ev C F13 ue (PySem.W.typeIs_bytes _ _ _) (by decide) (ld_global C.gbytes F13.keep (isnot_type_same (wpAny_truthy_bool ?_))))))))
  rw [if_neg (by decide)]
  refine wpAny_allTrue_Or_cons (wpAny_isTrue_Compare1 (ld F13 ue (PySem.W.Constant_bytes (ne_bytes (wpAny_truthy_bool ?_)))))
  rw [if_neg (by rw [pe_facts.2.2]; simp)]
  refine wpAny_allTrue_Or_nil ?_
  rw [if_neg (by decide)]
  refine wpAny_execs_nil ?_
  have gt13 : ∀ {v1 v2 : Value}, (if Str.ofString "text" = Str.ofString "told" then some v1 else if Str.ofString "text" = Str.ofString "thing" then some v2 else m9 "text") = some (.str (data8 ek) kt) :=
    un (un ((g9 "text" (by decide) (by decide) (by decide) (by decide)).trans mt))
  refine wpAny_execs_cons (wpAny_Try_except ?_)
  refine wpAny_execs_cons (wpAny_Expr (Call_ (ld_global ge F13.keep (callWith_def hdE (spliced_more (ld F13 gt13 (spliced_more (ld F13 (un ue) (spliced_none ⟨F13.keep _ _ hoE, wpAny_call ?_⟩)))))))))
  refine call_odd C hfe hfr hh hroom F13 hxf o13 hvL (fun hlo => absurd hlo (by omega)) (fun hlo h14 e2 T2 t2' cx2 nm2 tk14 F14 K14 ne2 nT2 ex14 hTe2 tb14 => ?_)
  refine caught (Y := "Exception") (P := fun fl m' => fl = .next ∧ ∀ y : Str, y ≠ "err" → y ≠ "told" → y ≠ "thing" → m' y = m9 y) hfr C.bl F14 C.gex (fresh_B F13 ne2) (fresh_B F13 nT2) ex14 rfl tb14 hTe2 ae_exc ae_notTuple ae_sub
    (fun h' tk' T' E' F' K' ex' => ?_) (fun fl h15 m15 v15 tk15 hP F15 K15 => ?_)
  · refine wpAny_execs_cons (wpAny_If (wpAny_isTrue_Compare1 (type_ev C F' ue (T := "AttributeError") ⟨_, ex', rfl⟩ (by decide) (ld_global C.gae F'.keep (isnot_type_same (wpAny_truthy_bool ?_))))))
    rw [if_neg (by decide)]
    exact wpAny_execs_nil (wpAny_execs_nil ⟨_, _, _, rfl, F', Kp.refl _ _, rfl, fun y n1 n2 n3 => (if_neg n1).trans ((if_neg n2).trans (if_neg n3))⟩)
  obtain ⟨rfl, hy15⟩ := hP
  have K1315 : Kp [L] h13 h15 := K14.fresh K15 (by intro p hp; simp at hp; rcases hp with rfl | rfl | rfl <;> simp [ne2, nT2])
  have g15 : ∀ y : Str, y ≠ "err" → y ≠ "told" → y ≠ "thing" → y ≠ "row" → y ≠ "words" → (if y = Str.ofString "err" then v15 else m15 y) = m y := fun y n1 n2 n3 n4 n5 => (if_neg n1).trans ((hy15 y n1 n2 n3).trans (g9 y n1 n2 n4 n5))
  exact wpAny_execs_nil ⟨rfl, _, h15, tk15, rfl, F15, K013.trans K1315, g15 _ (by decide) (by decide) (by decide) (by decide) (by decide), g15 _ (by decide) (by decide) (by decide) (by decide) (by decide), g15 _ (by decide) (by decide) (by decide) (by decide) (by decide), g15 _ (by decide) (by decide) (by decide) (by decide) (by decide)⟩
end
end Mine
end
section
open PySem PySem.W PyProof.Rows
open PySem.Builtin PySem.Builtin.Str
namespace Mine

section
variable {prog : Program} {w : World} {A : Around} {E : Value → Shared → Prop} {B h : Heap} {g : Array GenState} {d : Drawn} {tk : Nat} {os : OsState} {L f l : Addr} {cd : Value} {m : Str → Option Value}

theorem law_body (C : Ctx B L) (hfr : A.frames = some [envL L f cd]) (hh : A.handled = none) (hroom : A.depth < recursionLimit) (hu : A.units + 64 < cLine) {vs : List Value} {ns : List Int}
    (F : Fr B L h m) (hm : m "script" = some (.ref l)) (hl : B.IsList l vs.toArray) (hI : IntsAre vs ns) (hn : ns.length ≤ 63) :
    wpAny (model prog w) A (execs lawBody (envL L f cd)) (fun fl s3 => fl = .ret (.bool true) ∧ ∃ h3 tk3, s3 = ⟨h3, g, d, tk3, os⟩ ∧ B.StaysIn h3) E ⟨h, g, d, tk, os⟩ := by
  have hsl : sizeLine = 16777216 := rfl
  obtain ⟨fS, hS, gS⟩ := C.sign
  obtain ⟨fW, hW, gW⟩ := C.shown
  have htl := text8_len ns
  have hnl := name8_len ns
  have z1 : (Str.ofString "iT's x1Y_z").length = 10 := by decide +kernel
  refine wpAny_execs_cons (wpAny_Assign_Name (wpAny_BinOp (text8_ev hh hroom F hm hl hI hn C.lim hS gS C.gchr fun h1 tk1 k1 K1 => ?_)))
  refine Calls.Constant_str (PyProof.Rows.add_str (hsz := by omega) fun ka tka => ?_)
  have F1 : Fr B L h1 m := ⟨F.ns.keeps K1, fun b o e => K1 b o (F.keep b o e), F.above⟩
  refine storeN F1 (fun h2 F2 K2 => ?_)
  obtain ⟨oW, docW, pmW, cdW, ctW, anW, hoW, hdW, _⟩ := id hW
  have gname : (fun z => if z = Str.ofString "name" then some (Value.str (name8 ns) ka) else m z) (Str.ofString "name") = some (.str (name8 ns) ka) := ue
  refine wpAny_execs_cons (wpAny_Assign_Name (Call_ (ld_global gW F2.keep (callWith_def hdW (spliced_more (ld F2 gname (spliced_none ⟨F2.keep _ _ hoW, wpAny_call ?_⟩)))))))
  refine shown_call hW hh hroom F2.keep C.lim C.gord C.gchr name8_ascii (by omega) fun h3 tk3 k3 K3 => ?_
  have F3 : Fr B L h3 _ := ⟨F2.ns.keeps K3, fun b o e => K3 b o (F2.keep b o e), F2.above⟩
  refine storeN F3 (fun h4 F4 K4 => ?_)
  have hl4 : h4.IsList l vs.toArray := by obtain ⟨o, ho, r⟩ := hl; exact ⟨o, F4.keep _ _ ho, r⟩
  refine wpAny_execs_cons (wpAny_Assign_Name (wpAny_BinOp (Calls.Constant_str (wpAny_BinOp (wpAny_Constant_int (wpAny_BinOp ?_))))))
  refine Call_ (ld_global C.gsum F4.keep (PyProof.Rows.callWith_builtin1 (spliced_more (ld F4 (un (un hm)) (spliced_none ?_)))))
  have r0 : 0 ≤ ns.sum.fmod 3 := Int.fmod_nonneg_of_pos _ (by decide)
  have r1 : ns.sum.fmod 3 < 3 := Int.fmod_lt_of_pos _ (by decide)
  refine PyProof.Rows.LSm.sum_ints F4 News.nil hh hl4 hI fun h5 tk5 t5 F5 _ => ?_
  refine wpAny_Constant_int (mod_int' (by decide) (add_int ?_))
  dsimp only
  obtain ⟨ek, hek⟩ : ∃ ek : Nat, 1 + ns.sum.fmod 3 = (ek : Int) := ⟨(1 + ns.sum.fmod 3).toNat, by omega⟩
  have he : 0 < ek ∧ ek < 4 := by omega
  rw [hek]
  refine PySem.W.KXi.mul (n := 1) (by decide +kernel) (by decide) (by omega) (by omega) fun ke tke _ _ => ?_
  rw [mul_euro ⟨ek, he.2⟩ he.1]
  dsimp only
  refine storeN F5 (fun h6 F6 K6 => ?_)
  obtain ⟨q1, q2, q3, q4, q5, q6, q7⟩ := data8_facts ⟨ek, he.2⟩ he.1
  dsimp only at q1 q2 q3 q4 q5 q6 q7
  have y1 : (Str.ofString "p").length = 1 := by decide +kernel
  have y2 : (Str.ofString "q").length = 1 := by decide +kernel
  refine wpAny_execs_cons (wpAny_Assign_Name (wpAny_BinOp (wpAny_BinOp (Calls.Constant_str (ld F6 ue (PyProof.Rows.add_str (hsz := by omega) fun kb tkb => ?_))))))
  refine Calls.Constant_str (PyProof.Rows.add_str (hsz := by simp only [Str.length_append]; omega) fun kt tkt => ?_)
  refine storeN F6 (fun h7 F7 K7 => ?_)
  have gn7 : (fun z => if z = Str.ofString "text" then some (Value.str (data8 ek) kt) else if z = Str.ofString "euros" then some (Value.str (euros ek) ke) else if z = Str.ofString "shown" then some (Value.str (shown8 ns) k3) else if z = Str.ofString "name" then some (Value.str (name8 ns) ka) else m z) (Str.ofString "name") = some (.str (name8 ns) ka) := un (un (un ue))
  refine wpAny_execs_cons (wpAny_For ?_)
  refine Call_ (ld_global C.grange F7.keep (PyProof.Rows.callWith_type1 (spliced_more (wpAny_BinOp ?_))))
  refine Call_ (ld_global C.glen F7.keep (PyProof.Rows.callWith_builtin1 (spliced_more (ld F7 gn7 (spliced_none (PyProof.Rows.len_str (by omega) ?_))))))
  refine wpAny_Constant_int (add_int (spliced_none (call_range_1 ?_)))
  dsimp only
  refine wpAny_pyIter_range (IsRange.new _ _ _ _ _ _ _) (small_one (by omega) (by omega) (by omega) (by omega)) ?_
  dsimp only
  have hrs : Builtin.Range.rangeSize 0 (((name8 ns).length : Int) + 1) 1 = (((name8 ns).length + 1 : Nat) : Int) := by rw [rangeSize_one, if_pos (by omega)]; push_cast; omega
  rw [hrs]
  generalize hro : ({ cls := .type "range", data := .fields _ } : Obj) = robj
  generalize hio : ({ cls := .type "range_iterator", data := .fields _ } : Obj) = iobj
  have F8 := (F7.push robj).push iobj
  have hi3 := Heap.get?_push_size (h7.push robj) (o := iobj) (by rw [← hio]; rfl)
  have hnew : h7.get? (h7.push robj).objs.size = none := Heap.get?_none_of_le (by rw [Heap.size_push]; omega)
  have hBI := fresh_B F7 hnew
  have hIL : (h7.push robj).objs.size ≠ L := fun q => by obtain ⟨o, es, ep, ho, _⟩ := F7.ns; rw [← q, hnew] at ho; cases ho
  refine for_law (ws := []) (Walks.range (prog := prog) (w := w) (A := A) hh (h7.push robj).objs.size 0 1 ((name8 ns).length + 1)) (L := L) (B := B) (h0 := (h7.push robj).push iobj)
    (fun q => hIL (List.mem_singleton.mp q).symm) (fun q => hIL (List.mem_singleton.mp q).symm) (fun b hb => by rw [List.mem_singleton.mp hb]; exact hBI) (fun b hb => nomatch hb) C.bl rfl rfl rfl
    (fun i m' h' => m' "name" = some (.str (name8 ns) ka) ∧ m' "shown" = some (.str (shown8 ns) k3) ∧ m' "euros" = some (.str (euros ek) ke) ∧ m' "text" = some (.str (data8 ek) kt)) (fun i m' h h' j _ => j) F8 ?_ ⟨gn7, un (un ue), un ue, ue⟩ ?_ ?_
  · show IsRangeIter ((h7.push robj).push iobj) (h7.push robj).objs.size _ _ _
    have e1 : (0 + (((0 : Nat) : Int)) * 1) = 0 := by decide
    have e2 : ((((name8 ns).length + 1 : Nat) : Int) - ((0 : Nat) : Int)) = (((name8 ns).length + 1 : Nat) : Int) := by omega
    rw [← hio] at hi3
    rw [e1, e2, ← hio]
    exact hi3
  · rintro i m1 h9 tk9 v E' hi ⟨j1, j2, j3, j4⟩ ⟨tv, rfl⟩ F9 K9
    have ev : ((0 : Int) + (i : Int) * 1) = ((i : Nat) : Int) := by omega
    rw [ev] at F9
    refine wpAny_mono (turn8 (ek := ek) (k := i) C hfr hh hroom hu hn he (by omega) F9 (un j1) (un j2) (un j3) (un j4) ue) (fun fl s3 hs => ?_) fun _ _ q => q
    obtain ⟨rfl, m3, h3, tk3, rfl, F10, K10, x1, x2, x3, x4⟩ := hs
    exact ⟨rfl, m3, h3, tk3, rfl, F10, K10, x1.trans (un j1), x2.trans (un j2), x3.trans (un j3), x4.trans (un j4)⟩
  · rintro m6 h6 tk6 _ F6 K6
    exact wpAny_execs_cons (wpAny_Return_some (Constant_bool ⟨rfl, h6, tk6, rfl, F6.keep⟩))
end

theorem ctx_of {B : Heap} {mg mb : Str → Option Value} (g : B.Ns mainGlobals mg) (b : B.Ns builtinsNs mb) (lim : B.NoLimit) (bu : ∀ x : Str, x ≠ "__name__" → mb x = bootBuiltins x)
    {es : Array DictEntry} {ep : Nat} {cls : Value} {dd : Option Addr} {sl : Array (Option Value)} (h3 : B.get? 3 = some ⟨cls, dd, .dict es ep, sl⟩) {fe ft fs : Addr}
    (e1 : nsFind es "_encode" = some (.ref fe)) (e2 : nsFind es "_law_shown" = some (.ref ft)) (e3 : nsFind es "_law_sign" = some (.ref fs))
    (n1 : nsFind es "UnicodeEncodeError" = none) (n2 : nsFind es "chr" = none) (n3 : nsFind es "ord" = none) (n4 : nsFind es "len" = none) (n5 : nsFind es "range" = none) (n6 : nsFind es "type" = none) (n7 : nsFind es "bytes" = none)
    (n8 : nsFind es "AttributeError" = none) (n9 : nsFind es "Exception" = none) (n10 : nsFind es "sum" = none)
    (hf : EncFn B fe) (ht : FnIs B ft (Str.ofString "_law_shown") (stmt8 4)) (hs : FnIs B fs (Str.ofString "_law_sign") (stmt8 3)) : Ctx B B.objs.size := by
  have gv : ∀ x, nsFind es x = mg x := by
    obtain ⟨o, es', ep', ho, hd, _, hf⟩ := g
    rw [show mainGlobals = 3 from rfl, h3] at ho
    cases ho
    cases hd
    exact hf
  have bi : ∀ (x : Str) (v : Value), nsFind es x = none → bootBuiltins x = some v → x ≠ "__name__" → GlobalIs B x v := fun x v h1 h2 h3 =>
    ⟨mg, mb, g, b, .inr ⟨(gv x).symm.trans h1, (bu x h3).trans h2⟩⟩
  have gi : ∀ (x : Str) (v : Value), nsFind es x = some v → GlobalIs B x v := fun x v h1 => ⟨mg, mb, g, b, .inl ((gv x).symm.trans h1)⟩
  exact { bl := Heap.get?_none_of_le (Nat.le_refl _), lim := lim, names := ⟨mg, mb, g, (gv _).symm.trans n1, b, (bu _ (by decide)).trans (by decide +kernel)⟩,
          fn := ⟨fe, hf, gi _ _ e1⟩, shown := ⟨ft, ht, gi _ _ e2⟩, sign := ⟨fs, hs, gi _ _ e3⟩, gx := bi _ _ n1 (by decide +kernel) (by decide), gchr := bi _ _ n2 (by decide +kernel) (by decide),
          gord := bi _ _ n3 (by decide +kernel) (by decide), glen := bi _ _ n4 (by decide +kernel) (by decide), grange := bi _ _ n5 (by decide +kernel) (by decide), gtype := bi _ _ n6 (by decide +kernel) (by decide), gbytes := bi _ _ n7 (by decide +kernel) (by decide),
          gae := bi _ _ n8 (by decide +kernel) (by decide), gex := bi _ _ n9 (by decide +kernel) (by decide), gsum := bi _ _ n10 (by decide +kernel) (by decide) }
end Mine
end
section
open PySem PySem.W PyProof.Rows
set_option maxHeartbeats 8000000 in
theorem PySem.Challenge.cw_km0023_08_holds : PySem.Challenge.rw_km0023_08.Holds := by
  (w_on; o_law; k_head; (case hw => w_witness2); w_strict (k_go0))
  have T := ‹Top _ _ _ _ _ _›
  have KX := ‹Frag.In _ _›
  have F := ‹Fr _ _ _ _›
  have hL := ‹Heap.IsList _ _ _›
  have hI := ‹IntsAre _ _›
  have hcond := ‹¬ (_ : Int) < _›
  refine wpAny_mono (Mine.law_body (E := fun _ _ => False) ?_ ?_ ?_ ?_ ?_ F rfl hL hI ?_) ?_ fun _ _ x => x.elim
  · exact Mine.ctx_of T.g T.b T.nolimit T.builtins (KX 3 _ rfl) rfl rfl rfl rfl rfl rfl rfl rfl rfl rfl rfl rfl rfl
      ⟨_, _, _, _, _, _, _, _, _, _, KX 22 _ rfl, rfl, ⟨_, _, _, _, rfl, KX 21 _ rfl, rfl, rfl⟩, KX 15 _ rfl, rfl⟩
      ⟨_, _, _, _, _, _, KX 36 _ rfl, rfl, ⟨_, _, _, _, rfl, KX 35 _ rfl, rfl, rfl⟩⟩
      ⟨_, _, _, _, _, _, KX 29 _ rfl, rfl, ⟨_, _, _, _, rfl, KX 28 _ rfl, rfl, rfl⟩⟩
  · rfl
  · rfl
  · exact Nat.le_of_ble_eq_true rfl
  · exact Nat.le_of_ble_eq_true rfl
  · omega
  · rintro fl s' ⟨rfl, h3, tk3, rfl, keep⟩
    exact ⟨.inl ⟨_, .bool true, [], rfl, raisesW_false (by wrow_none_raised), .bool true, (by wrow_post), fun _ => ⟨List.nodup_nil, fun a ha => nomatch ha⟩⟩, keep, rfl, ‹_ = #[]›⟩
end
