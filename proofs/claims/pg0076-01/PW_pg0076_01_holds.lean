import PyProof.Rows.All
import Wide.All
import OpenK.AllK
import Wide.FinOn
import Lean
import PySem.Challenge.RW_pg0076_01
set_option Elab.async false

/-! T1 -/
section T1Part
open PySem PySem.W PyProof.Rows
namespace Mine
/-- the text of these signs -/
abbrev tx (l : List Nat) : Str := ⟨l.toArray⟩
theorem tx_cps (l : List Nat) : (tx l).cps.toList = l := by simp
theorem tx_len (l : List Nat) : (tx l).length = l.length := by simp [Str.length]
theorem tx_of (x : Str) : x = tx x.cps.toList := by cases x; simp
theorem tx_app (l k : List Nat) : tx l ++ tx k = tx (l ++ k) := by
  show Str.append _ _ = _
  simp [Str.append]
theorem slice_from (l : List Nat) (k : Nat) (hk : k ≤ l.length) : Txt.slice (tx l) (some k) none = tx (l.drop k) := by
  rw [slice_from_eq (b := (l.length : Int)) (by omega) (by rw [tx_len]; omega) (by rw [tx_len])]
  simp only [Int.toNat_natCast]
  congr 2
  exact List.take_of_length_le (by simp)
theorem slice_to (l : List Nat) (k : Nat) (hk : k ≤ l.length) : Txt.slice (tx l) none (some k) = tx (l.take k) := by
  have := slice_closes_to (x := tx l) (j := k) ⟨by omega, by simpa using hk⟩
  rw [beq_iff_eq.mp this]
  simp
theorem slice_neg (l : List Nat) (k : Nat) (h0 : 0 < k) (hk : k ≤ l.length) : Txt.slice (tx l) none (some (-(k : Int))) = tx (l.take (l.length - k)) := by
  have := slice_closes_to_neg (x := tx l) (j := -(k : Int)) (k := (l.length : Int) - k) (by omega) (by rw [tx_len]; omega) (by rw [tx_len]; omega)
  rw [beq_iff_eq.mp this]
  simp
theorem slice_all (x : Str) : Txt.slice x none none = x := by
  have e : Txt.slice x none none = Txt.slice x (some 0) none := rfl
  rw [e, tx_of x]
  have := slice_from x.cps.toList 0 (Nat.zero_le _)
  simpa using this
theorem item_at (l : List Nat) (k : Nat) (hk : k < l.length) : Txt.item (tx l) k = tx [l[k]] := by
  rw [W.item_meets ⟨by omega, by rw [tx_len]; omega⟩]
  simp [hk]
theorem item_neg (l : List Nat) (k : Nat) (h0 : 0 < k) (hk : k ≤ l.length) : Txt.item (tx l) (-(k : Int)) = tx [l[l.length - k]'(by omega)] := by
  have := item_closes_neg (x := tx l) (i := -(k : Int)) (j := (l.length : Int) - k) (by omega) (by rw [tx_len]; omega) (by rw [tx_len]; omega)
  rw [beq_iff_eq.mp this]
  have e : ((l.length : Int) - k).toNat = l.length - k := by omega
  have h : l.length - k < l.length := by omega
  rw [e]
  simp [h]
end Mine
end T1Part

/-! Hd -/
section HdPart
open PySem PySem.W PyProof.Rows
namespace Mine
set_option maxRecDepth 100000 in
set_option maxHeartbeats 8000000 in
open_top hd for PySem.Challenge.rw_pg0076_01
end Mine
end HdPart

/-! D1 -/
section D1Part
open PySem PySem.W PyProof.Rows
set_option maxRecDepth 100000
namespace Mine
theorem ude_new : ExcNewFacts "UnicodeDecodeError" "UnicodeDecodeError.__new__" where
  ends := by decide +kernel
  owner := by decide +kernel
  entry := entryFor_alias (id' := "BaseException.__new__") (by rw [fastTable_eq_tree]; kernel_rfl) (by first | rfl | decide +kernel) (by decide +kernel) (by rw [fastTable_eq_tree]; kernel_rfl)
  sub := by rw [isSubtype_type]; kernel_rfl
  notAttr := by rw [isSubtype_type]; kernel_rfl
  notName := by rw [isSubtype_type]; kernel_rfl
  made := by kernel_rfl
theorem ude_notType : (Value.type "UnicodeDecodeError" == Value.type "type") = false := by decide +kernel
theorem ude_canMake : ((Manifest.find? "UnicodeDecodeError").bind fun x => List.findSome? (fun t => (Manifest.find? t).bind fun b =>
    if b.noNew = true then some true else if (b.attrs.any fun x => x.fst == "__new__") = true then some false else none) x.mro).getD false = false := by kernel_rfl
theorem ude_noVector : ∀ args, checkTypeCall "UnicodeDecodeError" args = pure () := fun args => by kernel_rfl
theorem ude_mro : mroOf (.type "UnicodeDecodeError") = pure [.type "UnicodeDecodeError", .type "UnicodeError", .type "ValueError", .type "Exception", .type "BaseException", .type "object"] := by rw [mroOf_type]; kernel_rfl
theorem ude_madeBy : Bind.madeBy (.type "UnicodeDecodeError") = pure (some "UnicodeDecodeError.__new__") := by kernel_rfl
theorem ude_quiet : ("UnicodeDecodeError.__new__").startsWith "lifetime." = false := by decide +kernel
theorem ude_newOk : ∀ rest, checkBuiltinCall "UnicodeDecodeError.__new__" ⟨.type "UnicodeDecodeError" :: rest, []⟩ = pure () := fun rest => by kernel_rfl
theorem ude_init : Slot "UnicodeDecodeError" "__init__" "UnicodeDecodeError.__init__" :=
  .of (owner := "UnicodeDecodeError") (n := "__init__") (by rw [typeLookup_type, builtinLookup_eq_fast]; kernel_rfl) (by decide +kernel) (by decide +kernel) (by decide +kernel)
    (by first | exact .inl (by decide +kernel) | exact .inr (by decide +kernel)) (by rw [isSubtype_type]; kernel_rfl)
theorem ude_initEntry : entryFor table "UnicodeDecodeError.__init__" = some Builtin.«UnicodeDecodeError.__init__» := entryFor_of_tree (by kernel_rfl)
theorem ude_initSplit : splitId "UnicodeDecodeError.__init__" = some ("UnicodeDecodeError", "__init__") := by kernel_rfl
theorem ude_initKind : builtinKind "UnicodeDecodeError.__init__" = some .slot := by kernel_rfl
theorem ude_args (a b c d e f : Value) : argsOk "UnicodeDecodeError.__init__" ⟨[a, b, c, d, e, f], []⟩ := by unfold argsOk; kernel_rfl

def six (t : Value) : Array Value := #[t, .none, .none, .none, .bool false, .none]
abbrev udeAt (h : Heap) (e : Addr) (t : Value) (own : List Value) : Prop := h.get? e = some { cls := .type "UnicodeDecodeError", data := .fields (six t ++ own.toArray) }
theorem six_own (t : Value) (own : List Value) : ((six t ++ own.toArray).extract 6).toList = own := by simp [six]
theorem six_first (t : Value) (own : List Value) : (six t ++ own.toArray).extract 0 6 = six t := by simp [six]
theorem six_set (t t' : Value) (own : List Value) : (six t ++ own.toArray).setIfInBounds 0 t' = six t' ++ own.toArray := by
  apply Array.ext'
  simp [six]
section
variable {M : Model} {A : Around} {E : Value → Shared → Prop} {s : Shared}
open PySem.Builtin.UnicodeEncodeError PySem.Builtin
theorem members_nil {e : Addr} {t : Value} {Q : Members → Shared → Prop} (he : udeAt s.heap e t []) (h : Q {} s) : wpAny M A (members (.ref e)) Q E s := by
  unfold members
  show wpAny M A (fieldsOf (.ref e) >>= _) Q E s
  refine wpAny_bind ?_
  show wpAny M A (load e >>= _) _ E s
  refine wpAny_bind (wpAny_load he (wpAny_pure ?_))
  rw [six_own]
  exact wpAny_pure h
theorem members_five {e : Addr} {v a b c : Value} {i j : Int} {t u : Tok} {Q : Members → Shared → Prop} (he : udeAt s.heap e v [a, b, .int i t, .int j u, c])
    (h : Q { encoding := a, object := b, start := i, stop := j, reason := c } s) : wpAny M A (members (.ref e)) Q E s := by
  unfold members
  show wpAny M A (fieldsOf (.ref e) >>= _) Q E s
  refine wpAny_bind ?_
  show wpAny M A (load e >>= _) _ E s
  refine wpAny_bind (wpAny_load he (wpAny_pure ?_))
  rw [six_own]
  exact wpAny_pure h
theorem setMembers_ {e : Addr} {t : Value} {own : List Value} {m : Members} {Q : Unit → Shared → Prop} (he : udeAt s.heap e t own)
    (h : ∀ h', Heap.SameBut e s.heap h' → udeAt h' e t [m.encoding, m.object, rawInt m.start, rawInt m.stop, m.reason] → Q () { s with heap := h' }) : wpAny M A (setMembers (.ref e) m) Q E s := by
  unfold setMembers
  show wpAny M A (load e >>= _) Q E s
  refine wpAny_bind (wpAny_load he ?_)
  dsimp only
  have hg : udeAt (s.heap.update e (Obj.mapFields fun vs => vs.extract 0 6 ++ #[m.encoding, m.object, rawInt m.start, rawInt m.stop, m.reason])) e t [m.encoding, m.object, rawInt m.start, rawInt m.stop, m.reason] := by
    refine (Heap.get?_update_self _ he rfl).trans ?_
    show some ({ cls := Value.type "UnicodeDecodeError", data := Data.fields ((six t ++ own.toArray).extract 0 6 ++ #[m.encoding, m.object, rawInt m.start, rawInt m.stop, m.reason]) } : Obj) = _
    rw [six_first]
  refine wpAny_bind (wpAny_update he ?_)
  unfold lookBehind
  refine wpAny_bind (wpAny_loadPart hg ?_)
  have hp : (Data.fields (six t ++ [m.encoding, m.object, rawInt m.start, rawInt m.stop, m.reason].toArray)).pastItsLine = none := by
    have : (six t ++ [m.encoding, m.object, rawInt m.start, rawInt m.stop, m.reason].toArray).size ≤ 11 := by simp [six]
    have hn : ¬ (six t ++ [m.encoding, m.object, rawInt m.start, rawInt m.stop, m.reason].toArray).size > sizeLine + 3 := by rw [sizeLine_eq]; omega
    exact (if_neg hn : (if (six t ++ [m.encoding, m.object, rawInt m.start, rawInt m.stop, m.reason].toArray).size > sizeLine + 3 then some "record:memory" else none) = none)
  dsimp only
  rw [hp]
  exact wpAny_pure (h _ (Heap.SameBut.update ..) hg)
theorem setField_ {e : Addr} {t x : Value} {own : List Value} {Q : Unit → Shared → Prop} (he : udeAt s.heap e t own)
    (h : ∀ h', Heap.SameBut e s.heap h' → udeAt h' e x own → Q () { s with heap := h' }) : wpAny M A (setField (.ref e) 0 x) Q E s := by
  unfold setField updateField
  refine wpAny_bind (wpAny_load he ?_)
  dsimp only
  rw [if_pos (by simp [six])]
  refine wpAny_update he (h _ (Heap.SameBut.update ..) ((Heap.get?_update_self _ he rfl).trans ?_))
  show some ({ cls := Value.type "UnicodeDecodeError", data := Data.fields ((six t ++ own.toArray).setIfInBounds 0 x) } : Obj) = _
  rw [six_set]
theorem field_ {e : Addr} {t : Value} {own : List Value} {Q : Value → Shared → Prop} (he : udeAt s.heap e t own) (h : Q t s) : wpAny M A (field (.ref e) 0) Q E s := by
  unfold field fieldsOf
  refine wpAny_bind ?_
  show wpAny M A (load e >>= _) _ E s
  refine wpAny_bind (wpAny_load he (wpAny_pure ?_))
  rw [show (six t ++ own.toArray)[0]? = some t by simp [six]]
  exact wpAny_pure h

/-- the exception's own making -/
theorem init_ude {e : Addr} {t : Value} {enc : Str} {t1 : Tok} {b : Array UInt8} {t2 : Tok} {i : Int} {t3 : Tok} {j : Int} {t4 : Tok} {why : Str} {t5 : Tok} {Q : Fin → Shared → Prop}
    (he : udeAt s.heap e t [])
    (hi : -(2 ^ 63 : Int) ≤ i ∧ i < 2 ^ 63) (hj : -(2 ^ 63 : Int) ≤ j ∧ j < 2 ^ 63)
    (h : ∀ h' t', (∀ x o, x ≠ e → s.heap.get? x = some o → h'.get? x = some o) → udeAt h' e t' [.str enc t1, .bytes b t2, rawInt i, rawInt j, .str why t5] → Q (.done (.ret .none)) { s with heap := h' }) :
    wpAny M A (Builtin.«UnicodeDecodeError.__init__» ⟨[.ref e, .str enc t1, .bytes b t2, .int i t3, .int j t4, .str why t5], []⟩) Q E s := by
  unfold Builtin.«UnicodeDecodeError.__init__»
  refine wpAny_bind ?_
  unfold beginInit
  dsimp only
  show wpAny M A (field (.ref e) 0 >>= _) _ E s
  refine wpAny_bind (field_ he ?_)
  show wpAny M A (newTuple [.str enc t1, .bytes b t2, .int i t3, .int j t4, .str why t5] >>= _) _ E s
  refine wpAny_bind (wpAny_newObj_type ?_ (by show (5 : Nat) ≤ sizeLine; rw [sizeLine_eq]; decide))
  have hne : e ≠ s.heap.objs.size := Nat.ne_of_lt (Heap.lt_size he)
  generalize hH : s.heap.push _ = H
  have heH : udeAt H e t [] := hH ▸ Heap.get?_push_of_some _ he
  have kH : ∀ x o, s.heap.get? x = some o → H.get? x = some o := fun x o q => hH ▸ Heap.get?_push_of_some _ q
  refine wpAny_bind (setField_ (s := { s with heap := H }) heH fun h1 k1 e1 => ?_)
  refine wpAny_bind (wpAny_letGo ?_)
  rw [if_pos (by decide)]
  refine wpAny_bind (members_nil (s := { s with heap := h1 }) e1 ?_)
  refine wpAny_bind (setMembers_ (s := { s with heap := h1 }) e1 fun h2 k2 e2 => ?_)
  refine wpAny_bind (wpAny_letGo ?_)
  refine wpAny_bind (members_five (s := { s with heap := h2 }) e2 ?_)
  refine wpAny_bind (setMembers_ (s := { s with heap := h2 }) e2 fun h3 k3 e3 => ?_)
  refine wpAny_bind (wpAny_letGo ?_)
  refine wpAny_bind (members_five (s := { s with heap := h3 }) e3 ?_)
  refine wpAny_bind (setMembers_ (s := { s with heap := h3 }) e3 fun h4 k4 e4 => ?_)
  refine wpAny_bind (wpAny_letGo ?_)
  rw [if_neg (by show ¬ ((5 : Nat) != 5) = true; decide)]
  refine wpAny_pure ?_
  dsimp only
  refine wpAny_bind (m := strArgument "UnicodeDecodeError.__init__" 1 (Value.str enc t1)) ?_
  show wpAny M A (pure ()) _ E _
  refine wpAny_pure ?_
  refine wpAny_bind (m := initRange "UnicodeDecodeError.__init__" (Value.ref e) (Value.int i t3) (Value.int j t4)) ?_
  have sz : ∀ (k : Int) (tk : Tok) (Q : Int → Shared → Prop) (s : Shared), -(2 ^ 63 : Int) ≤ k ∧ k < 2 ^ 63 → Q k s → wpAny M A (sizeArgument "UnicodeDecodeError.__init__" (Value.int k tk)) Q E s := fun k tk Q s hk hQ => by
    show wpAny M A (if _ then _ else _) Q E s
    rw [if_neg (by simp only [Bool.or_eq_true, decide_eq_true_eq]; omega)]
    exact wpAny_pure hQ
  unfold initRange
  refine wpAny_bind (sz _ _ _ _ hi ?_)
  refine wpAny_bind (members_five (s := { s with heap := h4 }) e4 ?_)
  refine wpAny_bind (setMembers_ (s := { s with heap := h4 }) e4 fun h5 k5 e5 => ?_)
  refine wpAny_bind (sz _ _ _ _ hj ?_)
  refine wpAny_bind (members_five (s := { s with heap := h5 }) e5 ?_)
  refine setMembers_ (s := { s with heap := h5 }) e5 fun h6 k6 e6 => ?_
  refine wpAny_bind (m := strArgument "UnicodeDecodeError.__init__" 5 (Value.str why t5)) ?_
  show wpAny M A (pure ()) _ E _
  refine wpAny_pure ?_
  refine wpAny_bind (m := UnicodeDecodeError.bytesOf? (Value.bytes b t2)) ?_
  show wpAny M A (pure (some b)) _ E _
  refine wpAny_pure ?_
  rw [if_pos (by rfl)]
  refine wpAny_bind (wpAny_pure ?_)
  rw [if_pos (by rfl)]
  refine wpAny_bind (wpAny_pure ?_)
  rw [if_neg (by show ¬ (false = true); decide)]
  refine wpAny_bind (members_five (s := { s with heap := h6 }) e6 ?_)
  refine wpAny_bind (setMembers_ (s := { s with heap := h6 }) e6 fun h7 k7 e7 => ?_)
  refine wpAny_pure (h h7 _ (fun x o hx q => ?_) e7)
  rw [k7.2 x hx, k6.2 x hx, k5.2 x hx, k4.2 x hx, k3.2 x hx, k2.2 x hx, k1.2 x hx]
  exact kH x o q
end
section
variable {prog : Program} {w : World} {A : Around} {E : Value → Shared → Prop}
variable {hp : Heap} {g : Array GenState} {d : Drawn} {tk : Nat} {os : OsState}
theorem call_ude {enc : Str} {t1 : Tok} {b : Array UInt8} {t2 : Tok} {i : Int} {t3 : Tok} {j : Int} {t4 : Tok} {why : Str} {t5 : Tok} {Q : Value → Shared → Prop}
    (hi : -(2 ^ 63 : Int) ≤ i ∧ i < 2 ^ 63) (hj : -(2 ^ 63 : Int) ≤ j ∧ j < 2 ^ 63)
    (h : ∀ h' e t, (∀ x o, hp.get? x = some o → h'.get? x = some o) → hp.get? e = none → udeAt h' e t [.str enc t1, .bytes b t2, rawInt i, rawInt j, .str why t5] → Q (.ref e) ⟨h', g, d, tk, os⟩) :
    wpAny (model prog w) A (call (.type "UnicodeDecodeError") [.str enc t1, .bytes b t2, .int i t3, .int j t4, .str why t5]) Q E ⟨hp, g, d, tk, os⟩ := by
  refine wpAny_call (codeAny_of_tree ?_)
  show wpAny _ _ (again (.builtin "type.__call__" ⟨.type "UnicodeDecodeError" :: [.str enc t1, .bytes b t2, .int i t3, .int j t4, .str why t5], []⟩)) _ _ _
  refine wpAny_pure ⟨Code.quiet_builtin _ (by decide +kernel), codeAny_builtin entry_typeCall ?_⟩
  generalize hrest : [Value.str enc t1, .bytes b t2, .int i t3, .int j t4, .str why t5] = rest
  have hnt := ude_notType
  have hcan := ude_canMake
  have hchk := ude_noVector ⟨rest, []⟩
  have hmro := ude_mro
  have hmade := ude_madeBy
  wp_walk
  refine codeAny_call_builtin_code (Code.quiet_builtin _ ude_quiet) (wpAny_of_eq (ude_newOk rest) ?_)
  refine codeAny_exc_new ude_new ?_ (by rw [← hrest]; show (5 : Nat) ≤ sizeLine; rw [sizeLine_eq]; decide)
  show wpAny _ _ _ _ _ _
  have hget : udeAt ((hp.push { cls := .type "tuple", data := .seq rest.toArray }).push
      { cls := .type "UnicodeDecodeError", data := .fields #[.ref hp.objs.size, .none, .none, .none, .bool false, .none] }) (hp.objs.size + 1) (.ref hp.objs.size) [] := by
    refine (Heap.get?_push_at (by simp only [Heap.size_push]) rfl).trans ?_
    rfl
  generalize hH : (hp.push { cls := .type "tuple", data := .seq rest.toArray }).push
      { cls := .type "UnicodeDecodeError", data := .fields #[.ref hp.objs.size, .none, .none, .none, .bool false, .none] } = H at hget
  have kH : ∀ x o, hp.get? x = some o → H.get? x = some o := fun x o q => hH ▸ Heap.get?_push_of_some _ (Heap.get?_push_of_some _ q)
  refine wpAny_bind (wpAny_isInstance ⟨_, hget, rfl⟩ ude_new.sub ?_)
  wp_step
  subst hrest
  refine wpAny_bind (wpAny_holding (wpAny_callSpecial?_slot ⟨_, hget, rfl⟩ ude_init (wpAny_call_entry ude_init ⟨_, hget, rfl⟩ ude_initEntry (init_ude (s := ⟨H, g, d, tk, os⟩) hget hi hj fun h' t' k' e' => ?_) (ude_args _ _ _ _ _ _))))
  refine ⟨_, rfl, ?_⟩
  show wpAny _ _ (if (Value.none != Value.none) = true then _ else _) _ _ _
  rw [if_neg (by decide)]
  refine wpAny_pure (h h' _ t' (fun x o q => k' x o (fun z => ?_) (kH x o q)) (Heap.get?_none_of_le (Nat.le_succ _)) e')
  have hlt := Heap.lt_size q
  rw [z] at hlt
  exact Nat.not_lt.mpr (Nat.le_succ _) hlt
end
end Mine
end D1Part

/-! D2 -/
section D2Part
open PySem PySem.W PyProof.Rows
set_option maxRecDepth 100000
namespace Mine
open PySem.Builtin.UnicodeEncodeError PySem.Builtin PySem.Builtin._codecs PySem.Calls
abbrev hnd : Value := .builtin "_codecs.lookup_error.replace_errors"
theorem rep_kind : builtinKind "_codecs.lookup_error.replace_errors" = none := by decide +kernel
theorem rep_plain : plainId "_codecs.lookup_error.replace_errors" = true := by decide +kernel
theorem rep_entry : entryFor table "_codecs.lookup_error.replace_errors" = some Builtin.«_codecs.lookup_error.replace_errors» := entryFor_of_tree (by kernel_rfl)
theorem rep_args (a : Value) : argsOk "_codecs.lookup_error.replace_errors" ⟨[a], []⟩ := by unfold argsOk; kernel_rfl
theorem ude_no : isSubtype (.type "UnicodeDecodeError") (.type "UnicodeEncodeError") = pure false := by rw [isSubtype_type]; kernel_rfl
theorem ude_yes : isSubtype (.type "UnicodeDecodeError") (.type "UnicodeDecodeError") = pure true := by rw [isSubtype_type]; kernel_rfl
theorem ude_no2 : isSubtype (.type "UnicodeDecodeError") (.type "UnicodeTranslateError") = pure false := by rw [isSubtype_type]; kernel_rfl
theorem tup_yes : isSubtype (.type "tuple") (.type "tuple") = pure true := by rw [isSubtype_type]; kernel_rfl
section
variable {prog : Program} {w : World} {A : Around} {E : Value → Shared → Prop} {s : Shared}
/-- the handler itself -/
theorem rep_call {e : Addr} {v : Value} {enc : Value} {b : Array UInt8} {t2 : Tok} {i j : Nat} {why : Value} {Q : Value → Shared → Prop}
    (he : udeAt s.heap e v [enc, .bytes b t2, rawInt i, rawInt j, why]) (hi : i < j) (hj : j ≤ b.size) 
    (h : ∀ t u, Q (.ref s.heap.objs.size) { s with heap := s.heap.push { cls := .type "tuple", data := .seq #[.str ⟨#[0xFFFD]⟩ t, .int j u] }, toks := s.toks + 2 }) :
    wpAny (model prog w) A (call hnd [.ref e]) Q E s := by
  refine call_function_entry rep_kind rep_plain rep_entry (rep_args _) ?_
  unfold Builtin.«_codecs.lookup_error.replace_errors»
  refine wpAny_bind (wpAny_of_eq (a := .ref e) (by kernel_rfl) ?_)
  unfold _codecs.seen
  refine wpAny_bind (wpAny_bind (wpAny_isInstance ⟨_, he, rfl⟩ ude_no ?_))
  refine wpAny_bind (wpAny_isInstance ⟨_, he, rfl⟩ ude_yes ?_)
  refine wpAny_bind (wpAny_isInstance ⟨_, he, rfl⟩ ude_no2 ?_)
  show wpAny _ _ (members (.ref e) >>= _) _ _ _
  refine wpAny_bind (members_five he ?_)
  have hne : (Array.map (fun x : UInt8 => x.toNat) b).isEmpty = false := by
    rw [Array.isEmpty_eq_false_iff_exists_mem]
    exact ⟨_, Array.mem_map_of_mem (Array.getElem_mem (xs := b) (i := 0) (by omega))⟩
  show wpAny _ _ (if (Array.map (fun x : UInt8 => x.toNat) b).isEmpty = true then _ else _) _ _ _
  rw [hne, if_neg (by decide)]
  refine wpAny_pure ?_
  have hst : min (max (j : Int) 1) ((Array.map (fun x : UInt8 => x.toNat) b).size : Int) = j := by rw [Array.size_map]; omega
  show wpAny _ _ (_codecs.answer #[65533] (min (max (j : Int) 1) ((Array.map (fun x : UInt8 => x.toNat) b).size : Int))) _ _ _
  rw [hst]
  unfold _codecs.answer
  show wpAny _ _ (mkStr ⟨#[65533]⟩ >>= _) _ _ _
  refine wpAny_bind (wpAny_mkStr (x := ⟨#[65533]⟩) ?_ (by show (1 : Nat) ≤ sizeLine; rw [sizeLine_eq]; decide))
  refine wpAny_bind (wpAny_mkInt ?_)
  refine wpAny_bind (wpAny_newObj_type ?_ (by show (2 : Nat) ≤ sizeLine; rw [sizeLine_eq]; decide))
  exact wpAny_pure ⟨_, rfl, h _ _⟩

abbrev repl : Str := Str.ofString "replace"
abbrev u8 : String := "utf-8"
/-- what the decoder keeps between two faults -/
def FSt (h₀ h : Heap) (b : Array UInt8) (st : Faults) : Prop :=
  (∀ x o, h₀.get? x = some o → h.get? x = some o) ∧ (st = { held := [] } ∨ ∃ e v enc t2 why, ∃ i j : Int, st = { handler := some hnd, exc := some (.ref e), held := [] } ∧ h₀.get? e = none ∧ udeAt h e v [enc, .bytes b t2, rawInt i, rawInt j, why])

theorem fault {id : String} {h₀ : Heap} {b : Array UInt8} {st : Faults} {i j : Nat} {why : String} {Q : Faults × Array Nat × Nat → Shared → Prop}
    (hS : FSt h₀ s.heap b st) (hi : i < j) (hj : j ≤ b.size) (hb : b.size < 2 ^ 24) (hw : (Str.ofString why).length ≤ sizeLine)
    (h : ∀ h' tk st', FSt h₀ h' b st' → Q (st', #[0xFFFD], j) { s with heap := h', toks := tk }) :
    wpAny (model prog w) A (decodeFault id st (some repl) ["ignore", "replace", "surrogateescape"] u8 b i j why) Q E s := by
  unfold decodeFault
  obtain ⟨k, rfl | ⟨e, v, enc, t2, wh, i', j', rfl, hn, he⟩⟩ := hS
  case' inl =>
    refine wpAny_bind (wpAny_of_eq (a := hnd) (by kernel_rfl) ?_)
    refine wpAny_bind (wpAny_holding ?_)
    wp_delta
    refine wpAny_bind (wpAny_mkStr (x := Str.ofString u8) ?_ (by decide +kernel))
    refine wpAny_bind (wpAny_mkBytes ?_ (by rw [sizeLine_eq]; omega))
    refine wpAny_bind (wpAny_mkInt ?_)
    refine wpAny_bind (wpAny_mkInt ?_)
    refine wpAny_bind (wpAny_mkStr ?_ hw)
    refine call_ude (hp := s.heap) (by omega) (by omega) fun h1 e v k' hn' he1 => ?_
    have hn : h₀.get? e = none := by
      cases hq : h₀.get? e with
      | none => rfl
      | some o => rw [k e o hq] at hn'; cases hn'
    have k1 : ∀ x o, h₀.get? x = some o → h1.get? x = some o := fun x o q => k' x o (k x o q)
    obtain ⟨enc, t2, wy, he1⟩ : ∃ enc t2 wy, udeAt h1 e v [enc, .bytes b t2, rawInt i, rawInt j, wy] := ⟨_, _, _, he1⟩
    show wpAny _ _ _ _ _ { s with heap := h1, toks := s.toks + 1 + 1 + 1 + 1 + 1 }
    generalize s.toks + 1 + 1 + 1 + 1 + 1 = tk1
    clear hn'
  case' inr =>
    refine wpAny_bind (wpAny_of_eq (a := hnd) (by kernel_rfl) ?_)
    refine wpAny_bind (wpAny_holding ?_)
    wp_delta
    refine wpAny_bind (members_five he ?_)
    refine wpAny_bind (wpAny_mkStr ?_ hw)
    refine wpAny_bind (setMembers_ (s := { s with toks := s.toks + 1 }) he fun h1 k' he1 => ?_)
    refine wpAny_pure ?_
    have k1 : ∀ x o, h₀.get? x = some o → h1.get? x = some o := fun x o q => (k'.2 x (fun z => by rw [z, hn] at q; cases q)).trans (k x o q)
    obtain ⟨wy, he1⟩ : ∃ wy, udeAt h1 e v [enc, .bytes b t2, rawInt i, rawInt j, wy] := ⟨_, he1⟩
    show wpAny _ _ _ _ _ { s with heap := h1, toks := s.toks + 1 }
    generalize s.toks + 1 = tk1
    clear k' he
  all_goals (
    refine wpAny_bind ?_
    wp_delta
    refine wpAny_bind (members_five (s := { s with heap := h1, toks := tk1 }) he1 ?_)
    refine wpAny_bind (wpAny_holding ?_)
    show wpAny _ _ (call hnd [Value.ref e]) _ _ _
    refine rep_call (s := { s with heap := h1, toks := tk1 }) he1 hi hj fun t u => ?_
    show wpAny _ _ _ _ _ { s with heap := h1.push { cls := .type "tuple", data := .seq #[.str ⟨#[0xFFFD]⟩ t, .int j u] }, toks := tk1 + 2 }
    have he2 := Heap.get?_push_of_some { cls := .type "tuple", data := .seq #[.str ⟨#[0xFFFD]⟩ t, .int j u] } he1
    have ht2 : (h1.push { cls := .type "tuple", data := .seq #[.str ⟨#[0xFFFD]⟩ t, .int j u] }).get? h1.objs.size = some { cls := .type "tuple", data := .seq #[.str ⟨#[0xFFFD]⟩ t, .int j u] } := Heap.get?_push_size _ rfl
    have k2 : ∀ x o, h₀.get? x = some o → (h1.push { cls := .type "tuple", data := .seq #[.str ⟨#[0xFFFD]⟩ t, .int j u] }).get? x = some o := fun x o q => Heap.get?_push_of_some _ (k1 x o q)
    generalize hH2 : h1.push { cls := .type "tuple", data := .seq #[.str ⟨#[0xFFFD]⟩ t, .int j u] } = h2 at he2 ht2 k2 ⊢
    refine wpAny_bind (members_five (s := { s with heap := h2, toks := tk1 + 2 }) he2 ?_)
    show wpAny _ _ (if (!(t2 == t2 && b == b)) = true then _ else _) _ _ _
    rw [if_neg (by simp)]
    refine wpAny_pure (wpAny_holding (wpAny_bind ?_))
    wp_delta
    refine wpAny_bind (wpAny_isInstance (s := { s with heap := h2, toks := tk1 + 2 }) ⟨_, ht2, rfl⟩ tup_yes ?_)
    rw [if_neg (by decide)]
    refine wpAny_bind (m := seqItems? (.ref h1.objs.size)) ?_
    unfold seqItems?
    refine wpAny_bind (wpAny_load (s := { s with heap := h2, toks := tk1 + 2 }) ht2 ?_)
    refine wpAny_pure ?_
    show wpAny _ _ (pure (some (Value.str ⟨#[0xFFFD]⟩ t, Value.int j u))) _ _ _
    refine wpAny_pure ?_
    dsimp only
    refine wpAny_bind (wpAny_of_eq (a := some ⟨#[0xFFFD]⟩) rfl ?_)
    dsimp only
    refine wpAny_bind ?_
    wp_delta
    refine wpAny_bind (wpAny_of_eq (a := (j : Int)) rfl ?_)
    rw [if_neg (by simp only [Bool.or_eq_true, decide_eq_true_eq]; omega)]
    refine wpAny_pure (wpAny_bind ?_)
    wp_delta
    rw [if_neg (show ¬ (j : Int) < 0 by omega)]
    rw [if_neg (by simp only [Bool.or_eq_true, decide_eq_true_eq]; omega), if_neg (by omega)]
    refine wpAny_pure (wpAny_pure ?_)
    exact h _ _ _ ⟨k2, .inr ⟨e, v, enc, t2, wy, i, j, rfl, hn, he2⟩⟩)
end
end Mine
end D2Part

/-! D3 -/
section D3Part
open PySem PySem.W PyProof.Rows
set_option maxRecDepth 100000
namespace Mine
open PySem.Builtin.UnicodeEncodeError PySem.Builtin PySem.Builtin._codecs PySem.Calls
/-- the decoder's way through the octets -/
inductive Dec (b : Array UInt8) : Nat → List Nat → Prop
  | stop {p : Nat} : b.size ≤ p → Dec b p []
  | char {p q c : Nat} {l : List Nat} : p < b.size → Bytes.utf8At b p = (.char c, q) → p < q → Dec b q l → Dec b p (c :: l)
  | bad {p p' q q' : Nat} {why : String} {l : List Nat} : p < b.size → Bytes.utf8At b p = (.bad p' q why, q') → p < q → q ≤ b.size → (Str.ofString why).length ≤ 100 → Dec b q l → Dec b p (0xFFFD :: l)
theorem range_list {β : Type} (n : Nat) (b : β) (f : Nat → β → Sem (ForInStep β)) : forIn [:n] b f = forIn (List.range' 0 n 1) b f := by
  rw [Std.Legacy.Range.forIn_eq_forIn_range']
  have hsz : ([:n] : Std.Legacy.Range).size = n := by simp [Std.Legacy.Range.size]
  show forIn (List.range' 0 ([:n] : Std.Legacy.Range).size 1) b f = _
  rw [hsz]
section
variable {prog : Program} {w : World} {A : Around} {E : Value → Shared → Prop} {s : Shared}
theorem Dec.len {b : Array UInt8} {p : Nat} {l : List Nat} (h : Dec b p l) : l.length ≤ b.size - p := by
  induction h with
  | stop _ => simp
  | char h1 _ h2 _ ih => simp only [List.length_cons]; omega
  | bad h1 _ h2 _ _ _ ih => simp only [List.length_cons]; omega
theorem snocs (acc : Array Nat) (c : Nat) (l : List Nat) : acc ++ [c].toArray ++ l.toArray = acc ++ (c :: l).toArray := by
  apply Array.ext'
  simp
theorem loopD {M : Model} {b : Array UInt8} {h₀ : Heap} {Q : Nat × Array Nat × Faults → Shared → Prop} {f : Nat → Nat × Array Nat × Faults → Sem (ForInStep (Nat × Array Nat × Faults))}
    (hstop : ∀ x p acc st s Q, acc.size ≤ b.size → b.size ≤ p → Q (.done (p, acc, st)) s → wpAny M A (f x (p, acc, st)) Q E s)
    (hchar : ∀ x p acc st s Q c q, acc.size ≤ b.size → p < b.size → Bytes.utf8At b p = (.char c, q) → Q (.yield (q, acc ++ [c].toArray, st)) s → wpAny M A (f x (p, acc, st)) Q E s)
    (hbad : ∀ x p acc st (s : Shared) Q p' q q' why, acc.size ≤ b.size → p < b.size → Bytes.utf8At b p = (.bad p' q why, q') → p < q → q ≤ b.size → (Str.ofString why).length ≤ 100 → FSt h₀ s.heap b st →
      (∀ h' tk st', FSt h₀ h' b st' → Q (.yield (q, acc ++ [0xFFFD].toArray, st')) { s with heap := h', toks := tk }) → wpAny M A (f x (p, acc, st)) Q E s) :
    ∀ (l : List Nat) (p : Nat) (acc : Array Nat) (st : Faults) (rest : List Nat) (s : Shared), Dec b p rest → rest.length ≤ l.length → acc.size + rest.length ≤ b.size → FSt h₀ s.heap b st →
      (∀ h' tk p' st', (∀ x o, h₀.get? x = some o → h'.get? x = some o) → Q (p', acc ++ rest.toArray, st') { s with heap := h', toks := tk }) → wpAny M A (forIn l (p, acc, st) f) Q E s
  | [], p, acc, st, rest, s, hD, hl, _, hF, hQ => by
    have : rest = [] := List.length_eq_zero_iff.mp (Nat.le_zero.mp hl)
    subst this
    rw [List.forIn_nil]
    have := hQ s.heap s.toks p st hF.1
    simp only [Array.append_empty] at this
    exact wpAny_pure this
  | x :: l, p, acc, st, rest, s, hD, hl, hsz, hF, hQ => by
    rw [List.forIn_cons]
    refine wpAny_bind ?_
    cases hD with
    | stop hp =>
      refine hstop _ _ _ _ _ _ (by omega) hp (wpAny_pure ?_)
      have := hQ s.heap s.toks p st hF.1
      simpa using this
    | char hp hu hq hr =>
      simp only [List.length_cons] at hl hsz
      refine hchar _ _ _ _ _ _ _ _ (by omega) hp hu ?_
      refine loopD hstop hchar hbad l _ _ _ _ s hr (by omega) (by simp; omega) hF fun h' tk p' st' k => ?_
      have := hQ h' tk p' st' k
      rw [snocs]
      exact this
    | bad hp hu hq hqb hw hr =>
      simp only [List.length_cons] at hl hsz
      refine hbad _ _ _ _ _ _ _ _ _ _ (by omega) hp hu hq hqb hw hF fun h₁ tk₁ st₁ hF₁ => ?_
      refine loopD hstop hchar hbad l _ _ _ _ { s with heap := h₁, toks := tk₁ } hr (by omega) (by simp; omega) hF₁ fun h' tk p' st' k => ?_
      have := hQ h' tk p' st' k
      rw [snocs]
      exact this
theorem run_dec {id : String} {b : Array UInt8} {out : List Nat} {Q : Array Nat × Nat → Shared → Prop} (hD : Dec b 0 out) (hb : b.size < 2 ^ 20)
    (h : ∀ h' tk p, (∀ x o, s.heap.get? x = some o → h'.get? x = some o) → Q (out.toArray, p) { s with heap := h', toks := tk }) :
    wpAny (model prog w) A (runDecoder id utf8Decoder (some repl) true b 0 []) Q E s := by
  unfold runDecoder
  dsimp only
  rw [range_list]
  have hlen := hD.len
  refine wpAny_bind (loopD (h₀ := s.heap) (b := b) ?_ ?_ ?_ _ _ _ _ out s hD (by simpa using hlen) (by simpa using hlen) ⟨fun _ _ q => q, .inl rfl⟩ fun h' tk p' st' k => ?_)
  · intro x p acc st s Q ha hp hQ
    dsimp only
    rw [if_neg (by rw [sizeLine_eq]; omega), if_pos hp]
    exact wpAny_pure hQ
  · intro x p acc st s Q c q ha hp hu hQ
    dsimp only
    rw [if_neg (by rw [sizeLine_eq]; omega), if_neg (by omega)]
    have hf : utf8Decoder.find true b p = .text [c] q := by
      show (match Bytes.utf8At b p with | (.char c, nx) => Found.char c nx | (.bad _ stop reason, _) => _) = _
      rw [hu]; rfl
    rw [hf]
    exact wpAny_pure hQ
  · intro x p acc st s Q p' q q' why ha hp hu hq hqb hw hF hQ
    dsimp only
    rw [if_neg (by rw [sizeLine_eq]; omega), if_neg (by omega)]
    have hf : ∃ g, utf8Decoder.find true b p = .bad q why g := by
      simp only [utf8Decoder, hu]
      exact ⟨_, rfl⟩
    obtain ⟨g, hf⟩ := hf
    rw [hf]
    dsimp only
    rw [if_neg (by simp)]
    refine wpAny_bind (wpAny_rule (wpAny_bind (fault hF hq hqb (by omega) (by rw [sizeLine_eq]; omega) fun h' tk st' hF' => ?_)))
    exact wpAny_pure (hQ h' tk st' hF')
  · refine wpAny_pure ?_
    have := h h' tk p' k
    simpa using this
end
end Mine
end D3Part

/-! D4 -/
section D4Part
open PySem PySem.W PyProof.Rows
set_option maxRecDepth 100000
namespace Mine
open PySem.Builtin.UnicodeEncodeError PySem.Builtin PySem.Builtin._codecs PySem.Calls
abbrev sesc : Str := Str.ofString "surrogateescape"
theorem encode_eq {x : Str} {t t1 t2 : Tok} : Builtin.«str.encode» ⟨[.str x t, .str (Str.ofString "utf-8") t1, .str sesc t2], []⟩ =
    ((encodeNarrow "str.encode" utf8Codec (some sesc) (.str x t) x >>= fun b => mkBytes b) >>= fun v => ret v) := by kernel_rfl
theorem decode_eq {c : UInt8} {cs : List UInt8} {t t1 t2 : Tok} : Builtin.«bytes.decode» ⟨[.bytes (c :: cs).toArray t, .str (Str.ofString "utf-8") t1, .str repl t2], []⟩ =
    (mkStr (Str.ofString "utf-8") >>= fun _ => mkStr (Str.ofString "utf-8") >>= fun e => mkStr repl >>= fun r => mkStr (Str.ofString "bytes.decode") >>= fun i =>
    call (.builtin "_codecs.decode.text") [.bytes (c :: cs).toArray t, e, r, i] >>= fun v => ret v) := by kernel_rfl
theorem decode_nil {t t1 t2 : Tok} : Builtin.«bytes.decode» ⟨[.bytes #[] t, .str (Str.ofString "utf-8") t1, .str repl t2], []⟩ = (rule "bytes.decode.empty" >>= fun _ => retStr Str.empty) := by kernel_rfl
theorem road_eq {id : String} {b : Array UInt8} : _codecs.decodeRoad id b (Str.ofString "utf-8") (some repl) [] = (_codecs.runDecoder id _codecs.utf8Decoder (some repl) true b 0 [] >>= fun r => mkStr ⟨r.1⟩) := by kernel_rfl
/-- the octet that a stray sign stands for -/
def oct (c : Nat) : UInt8 := if c < 128 then c.toUInt8 else (c - 0xDC00).toUInt8
theorem first_bad (R : Array Nat) (p : Nat → Bool) : (R.findIdx? p).getD R.size ≤ R.size ∧ ∀ j, (h : j < R.size) → j < (R.findIdx? p).getD R.size → p R[j] = false := by
  cases h : R.findIdx? p with
  | none =>
    refine ⟨Nat.le_refl _, fun j hj _ => ?_⟩
    have := Array.findIdx?_eq_none_iff.mp h R[j] (Array.getElem_mem hj)
    simpa using this
  | some k =>
    obtain ⟨hk, h1, h2⟩ := Array.findIdx?_eq_some_iff_getElem.mp h
    refine ⟨Nat.le_of_lt hk, fun j hj hjk => ?_⟩
    have := h2 j hjk
    simpa using this
theorem first_pos (R : Array Nat) (p : Nat → Bool) (h0 : 0 < R.size) (hp : p R[0] = false) : 0 < (R.findIdx? p).getD R.size := by
  cases h : R.findIdx? p with
  | none => exact h0
  | some k =>
    obtain ⟨hk, h1, h2⟩ := Array.findIdx?_eq_some_iff_getElem.mp h
    show 0 < k
    rcases Nat.eq_zero_or_pos k with rfl | hk0
    · rw [hp] at h1; cases h1
    · exact hk0
theorem take_all (p : Nat → Bool) : ∀ (l : List Nat), (∀ y ∈ l, p y = true) → l.takeWhile p = l
  | [], _ => rfl
  | y :: l, h => by rw [List.takeWhile_cons, if_pos (h y List.mem_cons_self), take_all p l fun z hz => h z (List.mem_cons_of_mem _ hz)]
theorem fold_low : ∀ (l : List Nat) (out : Array UInt8), (∀ y ∈ l, y < 128) → l.foldl (fun acc y => acc ++ (utf8Codec.bytesOf y).toArray) out = out ++ (l.map oct).toArray
  | [], out, _ => by simp
  | y :: l, out, h => by
    have hy : y < 128 := h y List.mem_cons_self
    have e : utf8Codec.bytesOf y = [oct y] := by
      show Str.utf8Of y = _
      unfold Str.utf8Of oct
      rw [if_pos hy, if_pos hy]
    rw [List.foldl_cons, fold_low l _ fun z hz => h z (List.mem_cons_of_mem _ hz), e, List.map_cons]
    apply Array.ext'
    simp
theorem loopE {M : Model} {A : Around} {E : Value → Shared → Prop} {cps : Array Nat} {Q : Nat × Array UInt8 × Faults → Shared → Prop} {f : Nat → Nat × Array UInt8 × Faults → Sem (ForInStep (Nat × Array UInt8 × Faults))}
    (hstop : ∀ x i out st s Q, out.size ≤ cps.size → cps.size ≤ i → Q (.done (i, out, st)) s → wpAny M A (f x (i, out, st)) Q E s)
    (hgo : ∀ x i out st s Q, out.size ≤ cps.size → i < cps.size → (∀ k, 0 < k → i + k ≤ cps.size → Q (.yield (i + k, out ++ (((cps.toList.drop i).take k).map oct).toArray, st)) s) → wpAny M A (f x (i, out, st)) Q E s) :
    ∀ (l : List Nat) (i : Nat) (out : Array UInt8) (st : Faults) (s : Shared), i ≤ cps.size → cps.size - i ≤ l.length → out.size = i →
      (∀ p' st', Q (p', out ++ ((cps.toList.drop i).map oct).toArray, st') s) → wpAny M A (forIn l (i, out, st) f) Q E s
  | [], i, out, st, s, hi, hl, ho, hQ => by
    have hi' : i = cps.size := by simp at hl; omega
    rw [List.forIn_nil]
    have := hQ i st
    rw [hi', List.drop_of_length_le (by simp)] at this
    rw [hi']
    simpa using wpAny_pure (M := M) (A := A) (E := E) this
  | x :: l, i, out, st, s, hi, hl, ho, hQ => by
    rw [List.forIn_cons]
    refine wpAny_bind ?_
    by_cases hc : i < cps.size
    · refine hgo _ _ _ _ _ _ (by omega) hc fun k hk hik => ?_
      simp only [List.length_cons] at hl
      refine loopE hstop hgo l _ _ _ s hik (by omega) (by simp; omega) fun p' st' => ?_
      have := hQ p' st'
      have e : out ++ (((cps.toList.drop i).take k).map oct).toArray ++ ((cps.toList.drop (i + k)).map oct).toArray = out ++ ((cps.toList.drop i).map oct).toArray := by
        apply Array.ext'
        simp only [Array.toList_append, List.append_assoc]
        congr 1
        rw [← List.map_append, ← List.drop_drop, List.take_append_drop]
      rw [e]
      exact this
    · refine hstop _ _ _ _ _ _ (by omega) (by omega) (wpAny_pure ?_)
      have := hQ i st
      rw [List.drop_of_length_le (by simp; omega)] at this
      simpa using this
section
variable {prog : Program} {w : World} {A : Around} {E : Value → Shared → Prop} {s : Shared}
theorem sesc_is : ((some sesc).getD (Str.ofString "strict")).toString = "surrogateescape" := by decide +kernel
theorem u8bad (c : Nat) : utf8Codec.bad c = (decide (0xD800 ≤ c) && decide (c ≤ 0xDFFF)) := rfl
theorem enc_run {x : Str} {v : Value} {Q : Array UInt8 → Shared → Prop} (hx : ∀ c ∈ x.cps.toList, c < 128 ∨ (0xDC80 ≤ c ∧ c ≤ 0xDCFF)) (hsz : x.length < 2 ^ 20)
    (h : Q (x.cps.toList.map oct).toArray s) :
    wpAny (model prog w) A (encodeNarrow "str.encode" utf8Codec (some sesc) v x) Q E s := by
  unfold encodeNarrow
  dsimp only
  rw [range_list]
  have hl : x.length = x.cps.size := rfl
  refine wpAny_bind (loopE (cps := x.cps) ?_ ?_ _ _ _ _ s (Nat.zero_le _) (by simp [hl]) rfl fun p' st' => ?_)
  · intro y i out st s Q ho hi hQ
    dsimp only
    rw [if_neg (by rw [sizeLine_eq]; omega), Array.getElem?_eq_none hi]
    exact wpAny_pure hQ
  · intro y i out st s Q ho hi hQ
    have hR : (x.cps.extract i).size = x.cps.size - i := by simp
    have hRl : (x.cps.extract i).toList = x.cps.toList.drop i := by
      simp only [Array.toList_extract, List.extract_eq_take_drop]
      exact List.take_of_length_le (by simp)
    have hRg : ∀ j, (hj : j < (x.cps.extract i).size) → (x.cps.extract i)[j] ∈ x.cps.toList := fun j hj => by
      have := Array.getElem_mem hj
      rw [← Array.mem_toList_iff, hRl] at this
      exact List.mem_of_mem_drop this
    have hR0 : ∃ h0 : 0 < (x.cps.extract i).size, (x.cps.extract i)[0] = x.cps[i] := ⟨by omega, by simp⟩
    obtain ⟨h0, hR0⟩ := hR0
    dsimp only
    rw [if_neg (by rw [sizeLine_eq]; omega), Array.getElem?_eq_getElem hi]
    dsimp only
    by_cases hb : x.cps[i] < 128
    · rw [if_pos (by rw [u8bad]; simp; omega)]
      obtain ⟨hk1, hk2⟩ := first_bad (x.cps.extract i) utf8Codec.bad
      have hk0 := first_pos (x.cps.extract i) utf8Codec.bad h0 (by rw [hR0, u8bad]; simp; omega)
      generalize ((x.cps.extract i).findIdx? utf8Codec.bad).getD (x.cps.extract i).size = k at hk0 hk1 hk2 ⊢
      have hlow : ∀ y ∈ (x.cps.toList.drop i).take k, y < 128 := fun y hy => by
        rw [← hRl] at hy
        obtain ⟨j, hj, rfl⟩ := List.mem_take_iff_getElem.mp hy
        have hj' : j < (x.cps.extract i).size := by simp only [Array.length_toList] at hj; omega
        rw [Array.getElem_toList]
        have hf := hk2 j hj' (by omega)
        rcases hx _ (hRg j hj') with q | q
        · exact q
        · rw [u8bad] at hf; simp only [Bool.and_eq_false_iff, decide_eq_false_iff_not] at hf; omega
      have e : ((x.cps.extract i).extract 0 k).toList = (x.cps.toList.drop i).take k := by
        rw [Array.toList_extract, hRl, List.extract_eq_take_drop]
        simp
      rw [← Array.foldl_toList, e, fold_low _ _ hlow]
      exact wpAny_pure (hQ k hk0 (by omega))
    · have hbi : 0xDC80 ≤ x.cps[i] ∧ x.cps[i] ≤ 0xDCFF := by
        rcases hx x.cps[i] (by rw [Array.mem_toList_iff]; exact Array.getElem_mem hi) with q | q
        · exact absurd q hb
        · exact q
      rw [if_neg (by rw [u8bad]; simp; omega)]
      rw [sesc_is]
      obtain ⟨hk1, hk2⟩ := first_bad (x.cps.extract i) fun y => !utf8Codec.bad y
      have hk0 := first_pos (x.cps.extract i) (fun y => !utf8Codec.bad y) h0 (by rw [hR0, u8bad]; simp; omega)
      rw [← hR]
      generalize ((x.cps.extract i).findIdx? fun y => !utf8Codec.bad y).getD (x.cps.extract i).size = k at hk0 hk1 hk2 ⊢
      have e : (x.cps.extract i (i + k)).toList = (x.cps.toList.drop i).take k := by
        rw [Array.toList_extract, List.extract_eq_take_drop]
        simp
      have hhi : ∀ y ∈ (x.cps.toList.drop i).take k, 0xDC80 ≤ y ∧ y ≤ 0xDCFF := fun y hy => by
        rw [← hRl] at hy
        obtain ⟨j, hj, rfl⟩ := List.mem_take_iff_getElem.mp hy
        have hj' : j < (x.cps.extract i).size := by simp only [Array.length_toList] at hj; omega
        rw [Array.getElem_toList]
        have hf := hk2 j (by omega) (by omega)
        rcases hx _ (hRg j hj') with q | q
        · rw [u8bad] at hf; simp only [Bool.not_eq_false', Bool.and_eq_true, decide_eq_true_eq] at hf; omega
        · exact q
      have ew : List.takeWhile (fun x => decide (56448 ≤ x) && decide (x ≤ 56575)) ((x.cps.toList.drop i).take k) = (x.cps.toList.drop i).take k := by
        refine take_all _ _ fun y hy => ?_
        have := hhi y hy
        simp; omega
      have em : List.map (fun x => (x - 56320).toUInt8) ((x.cps.toList.drop i).take k) = ((x.cps.toList.drop i).take k).map oct := List.map_congr_left fun y hy => by
        have := hhi y hy
        unfold oct
        rw [if_neg (by omega)]
      have el : ((x.cps.toList.drop i).take k).length = k := by simp; omega
      refine wpAny_bind (wpAny_rule ?_)
      rw [e]
      show wpAny _ _ (if ("surrogateescape" == "strict" && !utf8Codec.name == "utf-8") = true then _ else _) _ _ _
      rw [if_neg (show ¬ ("surrogateescape" == "strict" && !utf8Codec.name == "utf-8") = true by decide)]
      rw [if_pos (show ("surrogateescape" == "surrogateescape") = true by decide)]
      rw [ew, el, em]
      rw [if_pos (show (i + k == i + k) = true by simp)]
      exact wpAny_pure (hQ k hk0 (by omega))
  · refine wpAny_pure ?_
    simpa using h

theorem encode_call {x : Str} {t t1 t2 : Tok} {Q : Value → Shared → Prop} (hx : ∀ c ∈ x.cps.toList, c < 128 ∨ (0xDC80 ≤ c ∧ c ≤ 0xDCFF)) (hsz : x.length < 2 ^ 20)
    (h : ∀ t', Q (.bytes (x.cps.toList.map oct).toArray t') { s with toks := s.toks + 1 }) : wpAny (model prog w) A (call (.builtin "str.encode") [.str x t, .str (Str.ofString "utf-8") t1, .str sesc t2]) Q E s := by
  refine wpAny_call_entry F.slot_str_encode (typeIs_str _ _ _) F.entry_str_encode ?_ (F.args_str_encode_3 _ _ _)
  rw [encode_eq]
  have hl : x.length = x.cps.size := rfl
  refine wpAny_bind (wpAny_bind (enc_run hx hsz (wpAny_mkBytes ?_ (by rw [sizeLine_eq]; simp; omega))))
  exact wpAny_pure ⟨_, rfl, h _⟩
theorem dec3_args (a b c : Value) : argsOk "bytes.decode" ⟨[a, b, c], []⟩ := by unfold argsOk; kernel_rfl
theorem text_call {b : Array UInt8} {out : List Nat} {t t1 t2 t3 : Tok} {d : Str} {Q : Value → Shared → Prop} (hD : Dec b 0 out) (hb : b.size < 2 ^ 20)
    (h : ∀ h' tk t', (∀ x o, s.heap.get? x = some o → h'.get? x = some o) → Q (.str ⟨out.toArray⟩ t') { s with heap := h', toks := tk }) :
    wpAny (model prog w) A (call (.builtin "_codecs.decode.text") [.bytes b t, .str (Str.ofString "utf-8") t1, .str repl t2, .str d t3]) Q E s := by
  refine call_function_entry KBd.kind_text KBd.plain_text KBd.entry_text (KBd.args_text _ _ _ _) ?_
  show wpAny _ _ (Bytes.bytesLike _ (.bytes b t) >>= fun r => _) _ _ s
  refine wpAny_bind (wpAny_of_eq KBd.like_eq ?_)
  refine wpAny_bind (wpAny_of_eq KBd.held_eq ?_)
  show wpAny _ _ (_codecs.decodeRoad _ b (Str.ofString "utf-8") (some repl) [] >>= fun v => _) _ _ s
  rw [road_eq]
  have hlen := hD.len
  refine wpAny_bind (wpAny_bind (run_dec hD hb fun h' tk p k => wpAny_mkStr (x := ⟨out.toArray⟩) ?_ (by show out.toArray.size ≤ sizeLine; rw [sizeLine_eq]; simp; omega)))
  exact wpAny_pure ⟨_, rfl, h _ _ _ k⟩
theorem decode_call {b : Array UInt8} {out : List Nat} {t t1 t2 : Tok} {Q : Value → Shared → Prop} (hD : Dec b 0 out) (hb : b.size < 2 ^ 20)
    (h : ∀ h' tk t', (∀ x o, s.heap.get? x = some o → h'.get? x = some o) → Q (.str ⟨out.toArray⟩ t') { s with heap := h', toks := tk }) :
    wpAny (model prog w) A (call (.builtin "bytes.decode") [.bytes b t, .str (Str.ofString "utf-8") t1, .str repl t2]) Q E s := by
  refine wpAny_call_entry FB.slot_bytes_decode (typeIs_bytes _ _ _) FB.entry_bytes_decode ?_ (dec3_args _ _ _)
  obtain ⟨l⟩ := b
  cases l with
  | nil =>
    rw [decode_nil]
    have ho : out = [] := by
      have := hD.len
      exact List.length_eq_zero_iff.mp (by simpa using this)
    subst ho
    refine wpAny_bind (wpAny_rule ?_)
    refine wpAny_bind (wpAny_mkStr ?_ (by decide +kernel))
    exact wpAny_pure ⟨_, rfl, h s.heap _ _ fun _ _ q => q⟩
  | cons c cs =>
    rw [decode_eq]
    refine wpAny_bind (wpAny_mkStr ?_ (by decide +kernel))
    refine wpAny_bind (wpAny_mkStr ?_ (by decide +kernel))
    refine wpAny_bind (wpAny_mkStr ?_ (by decide +kernel))
    refine wpAny_bind (wpAny_mkStr ?_ (by decide +kernel))
    exact wpAny_bind (text_call hD hb fun h' tk t' k => wpAny_pure ⟨_, rfl, h _ _ _ k⟩)
end
end Mine
end D4Part

/-! B0 -/
section B0Part
open PySem PySem.W PyProof.Rows
namespace Mine
abbrev PR : Program := PySem.Challenge.rw_pg0076_01.row.prog

theorem fill : PySem.Challenge.rw_pg0076_01.prog = PySem.Challenge.rw_pg0076_01.prog ∧ hd.heap_39 = hd.heap_39 := by
  k_fill
  exact ⟨rfl, rfl⟩

/-- what a caller stands on -/
structure Cx (w : World) (A : Around) (s : Shared) (d u : Nat) : Prop where
  out : ∃ A₀ base outer h₀ L m env p loose mean mg mb, Below A₀ base outer h₀ ∧ Fr h₀ L s.heap m ∧ (hd.heap_39 w.params).In h₀ ∧ Top p loose mean mg mb h₀ ∧ A.frames = some (env :: outer) ∧
    env.frame = some L ∧ env.scope.kind = .function ∧ A.depth + d < recursionLimit ∧ A.units + u < cLine ∧ A.handled = none

/-- behind a call: nothing that stood has changed -/
def Ext (s s' : Shared) : Prop := ∃ h' tk, s' = { s with heap := h', toks := tk } ∧ s.heap.StaysIn h'
theorem Ext.refl (s : Shared) : Ext s s := ⟨s.heap, s.toks, rfl, fun _ _ e => e⟩
theorem Ext.trans {s s' s'' : Shared} (a : Ext s s') (b : Ext s' s'') : Ext s s'' := by
  obtain ⟨h', tk, rfl, k⟩ := a
  obtain ⟨h'', tk', rfl, k'⟩ := b
  exact ⟨h'', tk', rfl, fun x o e => k' x o (k x o e)⟩

/-- the end of a body -/
def Back (_s : Shared) (Q : Value → Shared → Prop) (v : Value) (s' : Shared) : Prop := Q v s'
theorem Back.intro {s : Shared} {Q : Value → Shared → Prop} {v : Value} {L' : Addr} {h' : Heap} {m' : Str → Option Value} {tk : Nat} (F : Fr s.heap L' h' m')
    (h : Ext s { s with heap := h', toks := tk } → Q v { s with heap := h', toks := tk }) : Back s Q v { s with heap := h', toks := tk } := h ⟨_, _, rfl, F.keep⟩

theorem enterS {w : World} {A : Around} {s : Shared} {d u : Nat} {Q E : Value → Shared → Prop} {name qual : Str} {params : Arguments} {body : List Stmt} {scope : Scope} {dV kV doc pm cdv ct oc : Value} {an od : Option Addr} {osl : Array (Option Value)} {f : Addr} {args : List Value} (binds : List (Str × Value))
    (C : Cx w A s (d + 1) (u + 3))
    (ho : (hd.heap_39 w.params).lookup f = some ⟨oc, od, .func (fnOf name qual params body scope dV kV doc pm an cdv ct), osl⟩) (hcd : codeIn (hd.heap_39 w.params) cdv qual = true)
    (hbind : BindsTo s (fnOf name qual params body scope dV kV doc pm an cdv ct) ⟨args, []⟩ binds) (hloc : ∀ y ∈ binds, scope.names.lookup y.1 = some .local)
    (h : ∀ dp un gd env outer base L' h₁ p loose mean mg mb, Fr s.heap L' h₁ (fun y => binds.reverse.lookup y) → News s.heap L' h₁ [] → Below ⟨none, dp, some (env :: outer), gd, un⟩ base (env :: outer) s.heap →
      (hd.heap_39 w.params).In s.heap → Top p loose mean mg mb s.heap → dp + 1 + d < recursionLimit → un + 3 + u < cLine →
      wpAny (model PR w) (Around.deeper ⟨none, dp, some (env :: outer), gd, un⟩ (envOf qual scope L' f cdv)) (execs body (envOf qual scope L' f cdv))
        (fun fl s' => Back s Q (match fl with | .ret v => v | _ => .none) s') (fun _ _ => False)
        { s with heap := h₁, toks := s.toks + binds.length })
    (hco : scope.isCoroutine = false) (hgen : scope.isGenerator = false) (hk : scope.kind = .function)
    (hcell : ∀ x ∈ scope.names, x.2 ≠ .cell) : wpAny (model PR w) A (call (.ref f) args) Q E s := by
  obtain ⟨A₀, base, outer, h₀, L, m, env, p, loose, mean, mg, mb, B, F, X, T, hA, hf, hke, hdp, hun, hh⟩ := C.out
  obtain ⟨hdl, dp, fr, gd, un⟩ := A
  subst hA hh
  refine wpAny_call ?_
  obtain ⟨FG, BG, st, lv⟩ := groundX (R := fun _ _ => True) (A := ⟨none, dp, some (env :: outer), gd, un⟩) B F (News.nil (L := L) (h₀ := h₀) (h := s.heap)) rfl hf hke
  have X' := X.keeps F.keep
  refine codeAny_call_def (fd := fnOf name qual params body scope dV kV doc pm an cdv ct) (body := body) (binds := binds) (by simp at hdp ⊢; omega) (X' _ _ ho) rfl (T.nolimit.keeps F.keep) (codeRec_of X' hcd) rfl hbind hcell hloc (fun h₁ hns hk₁ => ?_) hco hgen hk
  have hb := h dp un gd env outer base s.heap.objs.size h₁ p loose mean mg mb ⟨hns, hk₁, Nat.le_refl _⟩ News.nil BG X' (T.keeps F.keep) (by simp at hdp; omega) (by simp at hun; omega)
  exact wpAny_mono hb (fun fl s' hl => hl) fun _ _ y => y.elim
end Mine
end B0Part

/-! B1 -/
section B1Part
open PySem PySem.W PyProof.Rows
namespace Mine
theorem frExt {h₀ h h' : Heap} {L : Addr} {m : Str → Option Value} (F : Fr h₀ L h m) (k : ∀ x o, h.get? x = some o → h'.get? x = some o) : Fr h₀ L h' m := by
  obtain ⟨oL, es, ep, hL, r⟩ := F.ns
  exact ⟨⟨oL, es, ep, k _ _ hL, r⟩, fun b o e => k b o (F.keep b o e), F.above⟩
theorem newsExt {h₀ h h' : Heap} {L : Addr} {news : List (Addr × Obj)} (N : News h₀ L h news) (k : ∀ x o, h.get? x = some o → h'.get? x = some o) : News h₀ L h' news :=
  fun p hp => ⟨k _ _ (N p hp).1, (N p hp).2⟩
theorem fill1 : PySem.Challenge.rw_pg0076_01.prog = PySem.Challenge.rw_pg0076_01.prog ∧ hd.heap_39 = hd.heap_39 := by
  k_fill
  exact ⟨rfl, rfl⟩
local macro_rules | `(tactic| walk_at "Back") => `(tactic| fail "at the end")
/-- the entry's side goals -/
local macro_rules | `(tactic| walk_at "mine enter") => `(tactic| (
  (case k6 => k_is); (case k7 => k_is); (case k9 => exact BindsTo.of_eq rfl); (case c5 => decide); (case kB => exact locs rfl); (case c2 => exact rfl); (case c3 => exact rfl); (case c4 => exact rfl); k_whole))

section
variable {prog : Program} {w : World} {A : Around} {E : Value → Shared → Prop} {s : Shared} {h₀ : Heap} {L : Addr} {m : Str → Option Value} {news : List (Addr × Obj)}
theorem gm_encode {M : Model} {x : Str} {t : Tok} {pl : Sem Bool} {Q : Value × List Value → Shared → Prop} (h : Q (.builtin "str.encode", [.str x t]) s) : wpAny M A (getMethod (.str x t) "encode" pl) Q E s := by
  with_reducible exact GM.of (.str x t) (typeIs_str _ _ _) F.slot_str_encode F.type_str_encode GM.noRef h
theorem decode_K {b : Array UInt8} {out : List Nat} {t t1 t2 : Tok} {Q : Value → Shared → Prop} (F : Fr h₀ L s.heap m) (N : News h₀ L s.heap news) (hD : Dec b 0 out) (hb : b.size < 2 ^ 20)
    (h : ∀ h' tk t', Fr h₀ L h' m → News h₀ L h' news → Q (.str ⟨out.toArray⟩ t') { s with heap := h', toks := tk }) :
    wpAny (model prog w) A (call (.builtin "bytes.decode") [.bytes b t, .str (Str.ofString "utf-8") t1, .str repl t2]) Q E s :=
  decode_call hD hb fun h' tk t' k => h h' tk t' (frExt F k) (newsExt N k)
end
local macro_rules | `(tactic| walk_at "getMethod str") => `(tactic| with_reducible refine gm_encode ?_)
local macro_rules | `(tactic| walk_at "getMethod bytes") => `(tactic| with_reducible refine KBd.method ?_)
local macro_rules | `(tactic| walk_at "call builtin:str.encode") => `(tactic| (refine encode_call (by assumption) (by assumption) ?_; intro _))
local macro_rules | `(tactic| walk_at "call builtin:bytes.decode") => `(tactic| (refine' decode_K ?k1 ?k2 ?k3 ?k4 ?_; (case k1 => k_asm); (case k2 => k_asm); (case k3 => assumption); (case k4 => assumption); intro h' tk' t' F' N'; (try k_sweep)))
abbrev Keeps' (h h' : Heap) : Prop := ∀ x o, h.get? x = some o → h'.get? x = some o
set_option maxRecDepth 100000 in
set_option maxHeartbeats 8000000 in
theorem sanitize_call {w : World} {A : Around} {s : Shared} {Q E : Value → Shared → Prop} (C : Cx w A s 10 100) {x : Str} {t : Tok} {out : List Nat}
    (hx : ∀ c ∈ x.cps.toList, c < 128 ∨ (0xDC80 ≤ c ∧ c ≤ 0xDCFF)) (hsz : x.length < 2 ^ 20) (hD : Dec (x.cps.toList.map oct).toArray 0 out)
    (hQ : ∀ h' tk t', Keeps' s.heap h' → Q (.str ⟨out.toArray⟩ t') { s with heap := h', toks := tk }) : wpAny (model PR w) A (call (.ref 21) [.str x t]) Q E s := by
  refine' enterS [(Str.ofString "string", .str x t)] (d := 9) (u := 97) C ?k6 ?k7 ?k9 ?kB ?_ ?c2 ?c3 ?c4 ?c5
  walk_at "mine enter"
  intro dp un gd env outer base L' h' p loose mean mg mb F' N' B' X' T' hdp hun
  have hb : (x.cps.toList.map oct).toArray.size < 2 ^ 20 := by
    have hl : x.length = x.cps.size := rfl
    simp; omega
  (try dsimp only)
  (try k_fold)
  k_steps
  all_goals exact hQ _ _ _ (Fr.keep (by assumption))

def subCost (a b : Str) : Int := if a == b then 0 else if Txt.lower a == Txt.lower b then 1 else 2
set_option maxRecDepth 100000 in
set_option maxHeartbeats 8000000 in
theorem subst_call {w : World} {A : Around} {s : Shared} {Q E : Value → Shared → Prop} (C : Cx w A s 10 100) {a b : Str} {ta tb : Tok}
    (ha : a.length ≤ 2) (hb : b.length ≤ 2)
    (hQ : ∀ h' tk t', Keeps' s.heap h' → Q (.int (subCost a b) t') { s with heap := h', toks := tk }) : wpAny (model PR w) A (call (.ref 28) [.str a ta, .str b tb]) Q E s := by
  refine' enterS [(Str.ofString "ch_a", .str a ta), (Str.ofString "ch_b", .str b tb)] (d := 9) (u := 97) C ?k6 ?k7 ?k9 ?kB ?_ ?c2 ?c3 ?c4 ?c5
  walk_at "mine enter"
  intro dp un gd env outer base L' h' p loose mean mg mb F' N' B' X' T' hdp hun
  unfold subCost at hQ
  (try dsimp only)
  (try k_fold)
  k_steps
  all_goals (
    (repeat (rename ((_ : Bool) = _) => hc; simp only [hc, if_true, Bool.false_eq_true, if_false] at hQ; clear hc))
    exact hQ _ _ _ (Fr.keep (by assumption)))

def octs (p : Int) : List Int :=
  if p < 128 then [p] else if p < 2048 then [192 + p.fdiv 64, 128 + p.fmod 64]
  else if p < 65536 then [224 + p.fdiv 4096, 128 + (p.fdiv 64).fmod 64, 128 + p.fmod 64]
  else [240 + p.fdiv 262144, 128 + (p.fdiv 4096).fmod 64, 128 + (p.fdiv 64).fmod 64, 128 + p.fmod 64]
set_option maxRecDepth 100000 in
set_option maxHeartbeats 8000000 in
theorem octets_call {w : World} {A : Around} {s : Shared} {Q E : Value → Shared → Prop} (C : Cx w A s 10 100) {p : Int} {t : Tok} (hp : 0 ≤ p) (hp' : p < 2 ^ 30)
    (hQ : ∀ h' tk l vs n, Keeps' s.heap h' → s.heap.get? l = none → h'.get? l = some (listOf vs n) → IntsAre vs.toList (octs p) → Q (.ref l) { s with heap := h', toks := tk }) :
    wpAny (model PR w) A (call (.ref 42) [.int p t]) Q E s := by
  refine' enterS [(Str.ofString "point", .int p t)] (d := 9) (u := 97) C ?k6 ?k7 ?k9 ?kB ?_ ?c2 ?c3 ?c4 ?c5
  walk_at "mine enter"
  intro dp un gd env outer base L' h' pp loose mean mg mb F' N' B' X' T' hdp hun
  (try dsimp only)
  (try k_fold)
  k_steps
  all_goals (
    rename News _ _ _ [_] => N
    refine hQ _ _ _ _ _ (Fr.keep (by assumption)) (News.fresh N List.mem_cons_self) (News.get N List.mem_cons_self) ?_
    simp only [octs, *, if_true, if_false]
    repeat (first | exact IntsAre.nil | refine IntsAre.cons _ _ ?_))
end Mine
end B1Part

/-! B2 -/
section B2Part
open PySem PySem.W PyProof.Rows
namespace Mine
theorem fill2 : PySem.Challenge.rw_pg0076_01.prog = PySem.Challenge.rw_pg0076_01.prog ∧ hd.heap_39 = hd.heap_39 := by
  k_fill
  exact ⟨rfl, rfl⟩
local macro_rules | `(tactic| walk_at "Back") => `(tactic| fail "at the end")
local macro_rules | `(tactic| walk_at "mine enter") => `(tactic| (
  (case k6 => k_is); (case k7 => k_is); (case k9 => exact BindsTo.of_eq rfl); (case c5 => decide); (case kB => exact locs rfl); (case c2 => exact rfl); (case c3 => exact rfl); (case c4 => exact rfl); k_whole))
local macro_rules | `(tactic| walk_at "mine step") => `(tactic| first | (k_unfold; (try dsimp only)) | walk1 | (dsimp only; walk1) | (leave1; walk_say "STEP leave1"; try dsimp only) | fail "no step")
local macro_rules | `(tactic| walk_at "mine steps") => `(tactic| repeat' ((fail_if_success (with_reducible show wpAny _ _ (exec (Stmt.While _ _ _ _) _) _ _ _)); (fail_if_success (with_reducible show wpAny _ _ (exec (Stmt.For _ _ _ _ _) _) _ _ _)); (fail_if_success (with_reducible show WhileStep _ _ _ _ _ _ _)); walk_at "mine step"))

/-- the cut among sizes: the place, the marks -/
noncomputable def cutAt : List Int → Int → Int × Int
  | [], _ => (0, 0)
  | z :: zs, c => if z ≤ c then (1 + (cutAt zs (c - z)).1, (cutAt zs (c - z)).2) else if c = 0 then (0, 0) else (0, 1 + z - c)
theorem cutAt_step {ns : List Int} {k : Nat} {d : Int} (hk : k < ns.length) (hz : ns.getD k 0 ≤ d) :
    cutAt (ns.drop k) d = (1 + (cutAt (ns.drop (k + 1)) (d - ns.getD k 0)).1, (cutAt (ns.drop (k + 1)) (d - ns.getD k 0)).2) := by
  rw [List.drop_eq_getElem_cons hk, cutAt]
  have e : ns.getD k 0 = ns[k] := by simp [hk]
  rw [e] at hz ⊢
  rw [if_pos hz]
theorem cutAt_stop {ns : List Int} {k : Nat} {d : Int} (hk : k < ns.length) (hz : ¬ ns.getD k 0 ≤ d) :
    cutAt (ns.drop k) d = if d = 0 then (0, 0) else (0, 1 + ns.getD k 0 - d) := by
  rw [List.drop_eq_getElem_cons hk, cutAt]
  have e : ns.getD k 0 = ns[k] := by simp [hk]
  rw [e] at hz ⊢
  rw [if_neg hz]
theorem sum_step {ns : List Int} {k : Nat} (hk : k < ns.length) : (ns.drop k).sum = ns.getD k 0 + (ns.drop (k + 1)).sum := by
  rw [List.drop_eq_getElem_cons hk, List.sum_cons]
  simp [hk]
theorem mapTwo {x z : Str} {v u v' u' : Option Value} {m : Str → Option Value} : (fun y => if y = x then v else if y = z then u else if y = x then v' else if y = z then u' else m y) = fun y => if y = x then v else if y = z then u else m y := by
  funext y
  by_cases h1 : y = x
  · simp [h1]
  · by_cases h2 : y = z <;> simp [h1, h2]
theorem mapOne {x : Str} {v v' : Option Value} {m : Str → Option Value} : (fun y => if y = x then v else if y = x then v' else m y) = fun y => if y = x then v else m y := by
  funext y
  by_cases h1 : y = x <;> simp [h1]
abbrev tupObj (vs : List Value) : Obj := { cls := .type "tuple", data := .seq vs.toArray }
set_option maxRecDepth 100000 in
set_option maxHeartbeats 8000000 in
theorem cut_call {w : World} {A : Around} {s : Shared} {Q E : Value → Shared → Prop} (C : Cx w A s 10 100) {l : Addr} {vs : List Value} {ns : List Int} {c : Int} {t : Tok}
    (hl : s.heap.IsList l vs.toArray) (hi : IntsAre vs ns) (hn : ns.length ≤ 100) (hp : ∀ z ∈ ns, 0 < z) (hc : 0 ≤ c) (hc' : c ≤ ns.sum)
    (hQ : ∀ h' tk r t1 t2, Keeps' s.heap h' → s.heap.get? r = none → h'.get? r = some (tupObj [.int (cutAt ns c).1 t1, .int (cutAt ns c).2 t2]) → Q (.ref r) { s with heap := h', toks := tk }) :
    wpAny (model PR w) A (call (.ref 54) [.ref l, .int c t]) Q E s := by
  refine' enterS [(Str.ofString "sizes", .ref l), (Str.ofString "cut", .int c t)] (d := 9) (u := 97) C ?k6 ?k7 ?k9 ?kB ?_ ?c2 ?c3 ?c4 ?c5
  walk_at "mine enter"
  intro dp un gd env outer base L' h' pp loose mean mg mb F' N' B' X' T' hdp hun
  (try dsimp only)
  (try k_fold)
  walk_at "mine steps"
  rename Fr _ _ _ _ => F
  rename News _ _ _ _ => N
  obtain ⟨t₀, F⟩ : ∃ t₀, Fr s.heap L' _ (fun y => if y = Str.ofString "place" then some (.int 0 t₀) else List.lookup y [(Str.ofString "sizes", Value.ref l), (Str.ofString "cut", Value.int c t)].reverse) := ⟨_, F⟩
  refine While_inv (n₀ := ns.length) (fun n m₁ news₁ => ∃ (k : Nat) (d : Int) (t₁ t₂ : Tok), k ≤ ns.length ∧ n = ns.length - k ∧ 0 ≤ d ∧ d ≤ (ns.drop k).sum ∧
    cutAt ns c = (k + (cutAt (ns.drop k) d).1, (cutAt (ns.drop k) d).2) ∧ news₁ = [] ∧
    m₁ = fun y => if y = Str.ofString "place" then some (.int k t₁) else if y = Str.ofString "cut" then some (.int d t₂) else List.lookup y [(Str.ofString "sizes", Value.ref l), (Str.ofString "cut", Value.int c t)].reverse)
    F N ⟨0, c, t₀, t, Nat.zero_le _, by simp, hc, by simpa using hc', by simp, rfl, ?_⟩ ?_
  · funext y
    by_cases h1 : y = Str.ofString "place"
    · rw [if_pos h1, if_pos h1]; rfl
    · rw [if_neg h1, if_neg h1]
      by_cases h2 : y = Str.ofString "cut"
      · rw [if_pos h2, h2]; rfl
      · rw [if_neg h2]
  · clear F N
    rintro n m₁ news₁ h₁ tk₁ F N ⟨k, d, t₁, t₂, hk, rfl, hd0, hds, hcut, rfl, rfl⟩
    walk_at "mine steps"
    all_goals (try rw [Int.toNat_natCast] at *)
    · rename Fr _ _ _ _ => F'
      rename News _ _ _ _ => N'
      rename ns.getD k 0 ≤ d => hz
      rename (k : Int) < (ns.length : Int) => hkl
      have hk' : k < ns.length := by omega
      refine WhileStep.intro (n' := ns.length - (k + 1)) F' N' (by omega) ⟨k + 1, d - ns.getD k 0, _, _, by omega, rfl, by omega, by have := sum_step hk'; omega, ?_, rfl, mapTwo⟩
      rw [hcut, cutAt_step hk' hz]
      simp only [Prod.mk.injEq, and_true]
      omega
    · rename News _ _ _ [_] => N'
      rename ¬ ns.getD k 0 ≤ d => hz
      rename (k : Int) < (ns.length : Int) => hkl
      rename d = 0 => hd1
      have hk' : k < ns.length := by omega
      rw [cutAt_stop hk' hz, if_pos hd1] at hcut
      rw [hcut] at hQ
      simp only [Int.add_zero] at hQ
      exact hQ _ _ _ _ _ (Fr.keep (by assumption)) (News.fresh N' List.mem_cons_self) (News.get N' List.mem_cons_self)
    · rename News _ _ _ [_] => N'
      rename ¬ ns.getD k 0 ≤ d => hz
      rename (k : Int) < (ns.length : Int) => hkl
      rename d ≠ 0 => hd1
      have hk' : k < ns.length := by omega
      rw [cutAt_stop hk' hz, if_neg hd1] at hcut
      rw [hcut] at hQ
      simp only [Int.add_zero] at hQ
      exact hQ _ _ _ _ _ (Fr.keep (by assumption)) (News.fresh N' List.mem_cons_self) (News.get N' List.mem_cons_self)
    · rename News _ _ _ [_] => N'
      rename ¬ (k : Int) < (ns.length : Int) => hkl
      rw [List.drop_of_length_le (by omega)] at hcut
      rw [hcut] at hQ
      simp only [cutAt, Int.add_zero] at hQ
      exact hQ _ _ _ _ _ (Fr.keep (by assumption)) (News.fresh N' List.mem_cons_self) (News.get N' List.mem_cons_self)
    · rename d ≠ 0 => hd1
      rename ¬ (k : Int) < (ns.length : Int) => hkl
      rw [List.drop_of_length_le (by omega)] at hds
      simp at hds
      omega
end Mine
end B2Part

/-! B3 -/
section B3Part
open PySem PySem.W PyProof.Rows
namespace Mine
theorem fill3 : PySem.Challenge.rw_pg0076_01.prog = PySem.Challenge.rw_pg0076_01.prog ∧ hd.heap_39 = hd.heap_39 := by
  k_fill
  exact ⟨rfl, rfl⟩
local macro_rules | `(tactic| walk_at "Back") => `(tactic| fail "at the end")
local macro_rules | `(tactic| walk_at "mine enter") => `(tactic| (
  (case k6 => k_is); (case k7 => k_is); (case k9 => exact BindsTo.of_eq rfl); (case c5 => decide); (case kB => exact locs rfl); (case c2 => exact rfl); (case c3 => exact rfl); (case c4 => exact rfl); k_whole))
local macro_rules | `(tactic| walk_at "mine step") => `(tactic| first | (k_unfold; (try dsimp only)) | walk1 | (dsimp only; walk1) | (leave1; walk_say "STEP leave1"; try dsimp only) | fail "no step")
local macro_rules | `(tactic| walk_at "mine steps") => `(tactic| repeat' ((fail_if_success (with_reducible show wpAny _ _ (exec (Stmt.While _ _ _ _) _) _ _ _)); (fail_if_success (with_reducible show wpAny _ _ (exec (Stmt.For _ _ _ _ _) _) _ _ _)); (fail_if_success (with_reducible show WhileStep _ _ _ _ _ _ _)); walk_at "mine step"))


/-- the text with k marks at its place p -/
def meant (x : Str) (p k : Int) : Str := if k = 0 then x else Txt.slice x none (some p) ++ Txt.mul ⟨#[Int.toNat 65533]⟩ k ++ Txt.slice x (some (p + 1)) none
set_option maxRecDepth 100000 in
set_option maxHeartbeats 8000000 in
theorem meant_call {w : World} {A : Around} {s : Shared} {Q E : Value → Shared → Prop} (C : Cx w A s 10 100) {x : Str} {tx : Tok} {p : Int} {tp : Tok} {k : Int} {tk : Tok}
    (hx : x.length ≤ 1000) (hp : 0 ≤ p) (hp' : p ≤ 1000) (hk : 0 ≤ k) (hk' : k ≤ 1000)
    (hQ : ∀ h' tk t1, Keeps' s.heap h' → Q (.str (meant x p k) t1) { s with heap := h', toks := tk }) :
    wpAny (model PR w) A (call (.ref 61) [.str x tx, .int p tp, .int k tk]) Q E s := by
  refine' enterS [(Str.ofString "text", .str x tx), (Str.ofString "place", .int p tp), (Str.ofString "marks", .int k tk)] (d := 9) (u := 97) C ?k6 ?k7 ?k9 ?kB ?_ ?c2 ?c3 ?c4 ?c5
  walk_at "mine enter"
  intro dp un gd env outer base L' h' pp loose mean mg mb F' N' B' X' T' hdp hun
  (try dsimp only)
  (try k_fold)
  walk_at "mine steps"
  · rename k = 0 => hk0
    rw [meant, if_pos hk0] at hQ
    exact hQ _ _ _ (Fr.keep (by assumption))
  · rename k ≠ 0 => hk0
    rw [meant, if_neg hk0] at hQ
    exact hQ _ _ _ (Fr.keep (by assumption))
end Mine
end B3Part

/-! B3b -/
section B3bPart
open PySem PySem.W PyProof.Rows
namespace Mine
theorem fill5 : PySem.Challenge.rw_pg0076_01.prog = PySem.Challenge.rw_pg0076_01.prog ∧ hd.heap_39 = hd.heap_39 := by
  k_fill
  exact ⟨rfl, rfl⟩
local macro_rules | `(tactic| walk_at "Back") => `(tactic| fail "at the end")
local macro_rules | `(tactic| walk_at "mine enter") => `(tactic| (
  (case k6 => k_is); (case k7 => k_is); (case k9 => exact BindsTo.of_eq rfl); (case c5 => decide); (case kB => exact locs rfl); (case c2 => exact rfl); (case c3 => exact rfl); (case c4 => exact rfl); k_whole))
local macro_rules | `(tactic| walk_at "mine step") => `(tactic| first | (k_unfold; (try dsimp only)) | walk1 | (dsimp only; walk1) | (leave1; walk_say "STEP leave1"; try dsimp only) | fail "no step")
local macro_rules | `(tactic| walk_at "mine steps") => `(tactic| repeat' ((fail_if_success (with_reducible show wpAny _ _ (exec (Stmt.While _ _ _ _) _) _ _ _)); (fail_if_success (with_reducible show wpAny _ _ (exec (Stmt.For _ _ _ _ _) _) _ _ _)); (fail_if_success (with_reducible show WhileStep _ _ _ _ _ _ _)); walk_at "mine step"))


/-- here the walk stops -/
def Stop (P : Prop) : Prop := P
theorem frPick {h₀ h : Heap} {L : Addr} {m : Str → Option Value} (x : Str) {v : Value} (F : Fr h₀ L h m) (e : m x = some v) : Fr h₀ L h (fun y => if y = x then some v else m y) := by
  have : (fun y => if y = x then some v else m y) = m := by
    funext y
    by_cases hy : y = x
    · rw [if_pos hy, hy, e]
    · rw [if_neg hy]
  rw [this]
  exact F
theorem Cx.of {w : World} {A₀ A : Around} {s : Shared} {d u : Nat} {base h₀ : Heap} {outer : List Env} {L : Addr} {m : Str → Option Value} {env : Env} {p : Program} {loose : List Str} {mean : ExcName → Option Value} {mg mb : Str → Option Value}
    (B : Below A₀ base outer h₀) (F : Fr h₀ L s.heap m) (X : (hd.heap_39 w.params).In h₀) (T : Top p loose mean mg mb h₀) (hA : A.frames = some (env :: outer)) (hf : env.frame = some L) (hk : env.scope.kind = .function)
    (hd : A.depth + d < recursionLimit) (hu : A.units + u < cLine) (hh : A.handled = none) : Cx w A s d u := ⟨_, _, _, _, _, _, _, _, _, _, _, _, B, F, X, T, hA, hf, hk, hd, hu, hh⟩
section
variable {prog : Program} {w : World} {A : Around} {E : Value → Shared → Prop} {s : Shared} {env : Env} {h₀ : Heap} {x : Str} {body : List Stmt} {Q : Flow → Shared → Prop}
theorem iter_rangeJ {r : Addr} {b₀ : Int} {t₀ u₀ v₀ : Tok} {n : Nat} {m₀ : Str → Option Value} {news : List (Addr × Obj)}
    (J : Nat → (Str → Option Value) → List (Addr × Obj) → Prop)
    (hh : A.handled = none) (hr : IsRange s.heap r 0 b₀ 1 t₀ u₀ v₀) (hsmall : Builtin.Range.small 0 b₀ 1 = true) (hn : Builtin.Range.rangeSize 0 b₀ 1 = (n : Int)) (F : Fr h₀ env.locals s.heap m₀) (N : News h₀ env.locals s.heap news) (hJ : J 0 m₀ news)
    (turn : ∀ i t m₁ nx h tk own, i < n → nx.map (·.1) = news.map (·.1) → OwnOff own (news.map (·.1)) → J i m₁ nx → Fr h₀ env.locals h (fun y => if y = x then some (.int (i : Int) t) else m₁ y) → News h₀ env.locals h (nx ++ own) →
      wpAny (model prog w) A (execs body env) (InvPostN h₀ env.locals (J (i + 1)) own (news.map (·.1)) { s with heap := h, toks := tk } Q) E { s with heap := h, toks := tk })
    (done : ∀ m₁ nx h tk, J n m₁ nx → Fr h₀ env.locals h m₁ → News h₀ env.locals h nx → Q .next { s with heap := h, toks := tk }) :
    wpAny (model prog w) A (pyIter (.ref r)) (fun it s₂ => LoopAtV prog w A h₀ env x body Q E it s₂) E s := by
  refine wpAny_pyIter_range hr hsmall ?_
  have W : Walks prog w A s.heap.objs.size [s.heap.objs.size] [s.heap.objs.size] n (fun i v => i < n ∧ ∃ t, v = .int (0 + i * 1) t)
      (fun i h => IsRangeIter h s.heap.objs.size (0 + (i : Nat) * 1) ((n : Int) - (i : Nat)) 1) := (Walks.range hh _ 0 1 n).bound
  refine loop_invN J W ?_ ?_ ?_ ?_ (by show IsRangeIter _ _ _ _ _; rw [hn]; simpa using Heap.get?_push_size _ rfl) (F.push _) (fun p hp => ⟨Heap.get?_push_of_some _ (N p hp).1, (N p hp).2⟩) hJ ?_ ?_
  · intro hm
    exact absurd F.ns.lt ((List.mem_singleton.mp hm) ▸ Nat.lt_irrefl _)
  · intro b hb
    rw [List.mem_singleton.mp hb]
    exact next_is_new F
  · intro p hp hI
    exact absurd (Heap.lt_size (N p hp).1) ((List.mem_singleton.mp hI) ▸ Nat.lt_irrefl _)
  · intro p hp hI
    exact absurd (Heap.lt_size (N p hp).1) ((List.mem_singleton.mp hI) ▸ Nat.lt_irrefl _)
  · rintro i v m₁ nx h tk own hi ⟨_, t, rfl⟩ ha ho hj F' N'
    have e : (0 + (i : Int) * 1) = (i : Int) := by omega
    rw [e] at F'
    exact turn i t m₁ nx h tk own hi ha ho hj F' N'
  · exact done
end
section
variable {prog : Program} {w : World} {A : Around} {E : Value → Shared → Prop} {s : Shared} {h₀ : Heap} {L : Addr} {m : Str → Option Value} {news : List (Addr × Obj)} {Q : Value → Shared → Prop}
theorem list_range_K {r : Addr} {a b c : Int} {t u v : Tok} {n : Nat} (hh : A.handled = none) (F : Fr h₀ L s.heap m) (N : News h₀ L s.heap news)
    (hr : IsRange s.heap r a b c t u v) (hsmall : Builtin.Range.small a b c = true) (hn : Builtin.Range.rangeSize a b c = (n : Int)) (hlen : n ≤ 2 ^ 24)
    (hQ : ∀ h' tk l c' (ys : List Value), Fr h₀ L h' m → News h₀ L h' ((l, listOf ys.toArray c') :: news) → (∀ p ∈ news, p.1 < l) → IntsAre ys (rangeInts a c n) → Q (.ref l) { s with heap := h', toks := tk }) :
    wpAny (model prog w) A (call (.type "list") [.ref r]) Q E s := by
  refine list_rangeD hh F N hr hsmall hn hlen fun h' tk ys F' N' k hnew hl hp hc => ?_
  obtain ⟨⟨c', hc'⟩, hne⟩ := hp
  refine hQ h' tk _ c' ys F' (fun p hp => ?_) (fun p hp => Heap.lt_size (N p hp).1) ?_
  · rcases List.mem_cons.mp hp with rfl | hp
    · refine ⟨hc', ?_, hnew⟩
      exact Nat.ne_of_gt (F.ns.lt)
    · exact N' p hp
  · have := CarriedAll.intsOf (f := id) (as := rangeInts a c n) (by simpa using hc)
    simpa using this
end
section
variable {w : World} {A₀ A : Around} {E : Value → Shared → Prop} {s : Shared} {base h₀ : Heap} {outer : List Env} {L : Addr} {m : Str → Option Value} {env : Env} {p : Program} {loose : List Str} {mean : ExcName → Option Value} {mg mb : Str → Option Value} {news : List (Addr × Obj)} {Q : Value → Shared → Prop}
theorem subst_K (B : Below A₀ base outer h₀) (F : Fr h₀ L s.heap m) (X : (hd.heap_39 w.params).In h₀) (T : Top p loose mean mg mb h₀) (N : News h₀ L s.heap news) (hA : A.frames = some (env :: outer)) (hf : env.frame = some L) (hk : env.scope.kind = .function)
    (hd : A.depth + 10 < recursionLimit) (hu : A.units + 100 < cLine) (hh : A.handled = none) {a b : Str} {ta tb : Tok} (ha : a.length ≤ 2) (hb : b.length ≤ 2)
    (h : ∀ h' tk t', Fr h₀ L h' m → News h₀ L h' news → Q (.int (subCost a b) t') { s with heap := h', toks := tk }) : wpAny (model PR w) A (call (.ref 28) [.str a ta, .str b tb]) Q E s :=
  subst_call (Cx.of B F X T hA hf hk hd hu hh) ha hb fun h' tk t' k => h h' tk t' (frExt F k) (newsExt N k)
end
theorem invEnd2 {h₀ : Heap} {L : Addr} {J : (Str → Option Value) → List (Addr × Obj) → Prop} {m' : Str → Option Value} {own own₂ : List (Addr × Obj)} {ra : Addr} {o : Obj} {adr : List Addr} {s₁ : Shared} {h' : Heap} {tk : Nat} (F : Fr h₀ L h' m')
    (N : News h₀ L h' ((ra, o) :: (own ++ own₂))) (hj : J m' ((ra, o) :: own)) (ha : adr = ra :: own.map (·.1)) : InvEndN h₀ L J own₂ adr s₁ { s₁ with heap := h', toks := tk } :=
  InvEndN.intro (nx := (ra, o) :: own) F N hj (by rw [ha]; rfl) (fun p hp => by
    rcases List.mem_cons.mp hp with rfl | hp
    · exact List.mem_cons_self
    · exact List.mem_cons_of_mem _ (List.mem_append_left _ hp)) fun p hp => List.mem_cons_of_mem _ (List.mem_append_right _ hp)
/-- a range by twos -/
theorem rs2 (n : Nat) : Builtin.Range.rangeSize 2 (2 * ((n : Int) + 1)) 2 = n := by
  unfold Builtin.Range.rangeSize
  rw [if_pos (by decide)]
  split <;> omega
theorem fitsL {i : Int} (h : -1000000 ≤ i ∧ i ≤ 1000000) : Builtin.Range.rangeFitsLong i = true := by
  unfold Builtin.Range.rangeFitsLong
  rw [Bool.and_eq_true, decide_eq_true_eq, decide_eq_true_eq]
  omega
theorem small2 {n : Nat} (h : n ≤ 1000) : Builtin.Range.small 2 (2 * ((n : Int) + 1)) 2 = true := by
  unfold Builtin.Range.small
  rw [rs2, fitsL (by omega), fitsL (by omega), fitsL (by omega), if_pos (by decide), fitsL (by omega), Bool.or_true]
  rfl
theorem rs1 (n : Nat) : Builtin.Range.rangeSize 0 (n : Int) 1 = n := by
  unfold Builtin.Range.rangeSize
  rw [if_pos (by decide)]
  split <;> omega
theorem small1 {n : Nat} (h : n ≤ 1000) : Builtin.Range.small 0 (n : Int) 1 = true := by
  unfold Builtin.Range.small
  rw [rs1, fitsL (by omega), fitsL (by omega), fitsL (by omega), if_pos (by decide), fitsL (by omega), Bool.or_true]
  rfl
end Mine
end B3bPart

/-! B4 -/
section B4Part
open PySem PySem.W PyProof.Rows
namespace Mine
theorem fill4 : PySem.Challenge.rw_pg0076_01.prog = PySem.Challenge.rw_pg0076_01.prog ∧ hd.heap_39 = hd.heap_39 := by
  k_fill
  exact ⟨rfl, rfl⟩
local macro_rules | `(tactic| walk_at "Back") => `(tactic| fail "at the end")
local macro_rules | `(tactic| walk_at "mine enter") => `(tactic| (
  (case k6 => k_is); (case k7 => k_is); (case k9 => exact BindsTo.of_eq rfl); (case c5 => decide); (case kB => exact locs rfl); (case c2 => exact rfl); (case c3 => exact rfl); (case c4 => exact rfl); k_whole))
local macro_rules | `(tactic| walk_at "mine step") => `(tactic| first | (k_unfold; (try dsimp only)) | walk1 | (dsimp only; walk1) | (leave1; walk_say "STEP leave1"; try dsimp only) | fail "no step")
local macro_rules | `(tactic| walk_at "mine steps") => `(tactic| repeat' ((fail_if_success (with_reducible show wpAny _ _ (exec (Stmt.While _ _ _ _) _) _ _ _)); (fail_if_success (with_reducible show wpAny _ _ (exec (Stmt.For _ _ _ _ _) _) _ _ _)); (fail_if_success (with_reducible show WhileStep _ _ _ _ _ _ _)); walk_at "mine step"))


local macro_rules | `(tactic| walk_at "subscriptTail Name Slice str ref") => `(tactic| ((with_reducible show wpAny _ _ (subscriptTail _ (Expr.Slice none (some (Expr.BoolOp _ _ _)) none _) _ _) _ _ _); (first
  | (refine slice_strN_ns_len (s := ⟨_, _, _, _, _⟩) (by with_reducible assumption) (by with_reducible assumption) ?_; intro _ _ _ _ _ _; (try dsimp only))
  | (refine slice_strN_nn_len (s := ⟨_, _, _, _, _⟩) (by with_reducible assumption) (by with_reducible assumption) ?_; intro _ _ _ _ _ _; (try dsimp only)))))
theorem bne_yes {i : Int} (h : i ≠ 0) : (i != 0) = true := by simpa using h
theorem bne_no {i : Int} (h : i = 0) : ¬ (i != 0) = true := by simpa using h
local macro_rules | `(tactic| walk_at "ite") => `(tactic| ((with_reducible show if ((_ : Int) != 0) = true then _ else _); first | refine ite_pos (bne_yes (by omega)) ?_ | refine ite_neg (bne_no (by omega)) ?_))
theorem pre_step {P R T : List Nat} {k : Nat} (hk : k ≤ P.length) (h1 : k < (P ++ R).length) (h2 : k < (P ++ T).length) (hpre : R = [] ∨ T = [] ∨ R.head? ≠ T.head?) (he : (P ++ R)[k] = (P ++ T)[k]) : k < P.length := by
  rcases Nat.lt_or_ge k P.length with h | h
  · exact h
  · exfalso
    have hk' : k = P.length := by omega
    subst hk'
    cases R with
    | nil => simp at h1
    | cons r R =>
      cases T with
      | nil => simp at h2
      | cons t T => simp at he hpre; exact hpre he
theorem pre_stop {P R T : List Nat} {k : Nat} (hk : k ≤ P.length) (h1 : k < (P ++ R).length) (h2 : k < (P ++ T).length) (he : (P ++ R)[k] ≠ (P ++ T)[k]) : k = P.length := by
  rcases Nat.lt_or_ge k P.length with h | h
  · exact absurd (by rw [List.getElem_append_left h, List.getElem_append_left h]) he
  · omega
theorem item_eq {A B : List Nat} {k : Nat} (h1 : k < A.length) (h2 : k < B.length) : (Txt.item (tx A) k == Txt.item (tx B) k) = decide (A[k] = B[k]) := by
  rw [item_at A k h1, item_at B k h2]
  by_cases h : A[k] = B[k]
  · simp [h]
  · rw [decide_eq_false h]
    simpa using h
theorem post_step {R T S : List Nat} {k : Nat} (hk : k ≤ S.length) (h1 : k < (R ++ S).length) (h2 : k < (T ++ S).length) (hpost : R = [] ∨ T = [] ∨ R.getLast? ≠ T.getLast?)
    (he : (R ++ S)[(R ++ S).length - (k + 1)] = (T ++ S)[(T ++ S).length - (k + 1)]) : k < S.length := by
  rcases Nat.lt_or_ge k S.length with h | h
  · exact h
  · exfalso
    have hk' : k = S.length := by omega
    subst hk'
    simp only [List.length_append] at h1 h2
    have hR : 0 < R.length := by omega
    have hT : 0 < T.length := by omega
    have e1 : (R ++ S)[(R ++ S).length - (S.length + 1)] = R[R.length - 1] := by
      rw [List.getElem_append_left (by simp; omega)]
      congr 1
      simp; omega
    have e2 : (T ++ S)[(T ++ S).length - (S.length + 1)] = T[T.length - 1] := by
      rw [List.getElem_append_left (by simp; omega)]
      congr 1
      simp; omega
    rw [e1, e2] at he
    rcases hpost with h | h | h
    · subst h; simp at hR
    · subst h; simp at hT
    · apply h
      rw [List.getLast?_eq_getElem?, List.getLast?_eq_getElem?, List.getElem?_eq_getElem (by omega), List.getElem?_eq_getElem (by omega), he]
theorem post_stop {R T S : List Nat} {k : Nat} (hk : k ≤ S.length) (h1 : k < (R ++ S).length) (h2 : k < (T ++ S).length)
    (he : (R ++ S)[(R ++ S).length - (k + 1)] ≠ (T ++ S)[(T ++ S).length - (k + 1)]) : k = S.length := by
  rcases Nat.lt_or_ge k S.length with h | h
  · refine absurd ?_ he
    rw [List.getElem_append_right (by simp; omega), List.getElem_append_right (by simp; omega)]
    congr 1
    simp; omega
  · omega
theorem itemN_eq {A B : List Nat} {k : Nat} (h1 : k < A.length) (h2 : k < B.length) : (Txt.item (tx A) (-(k : Int) - 1) == Txt.item (tx B) (-(k : Int) - 1)) = decide (A[A.length - (k + 1)] = B[B.length - (k + 1)]) := by
  have e : -(k : Int) - 1 = -((k + 1 : Nat) : Int) := by omega
  rw [e, item_neg A (k + 1) (by omega) (by omega), item_neg B (k + 1) (by omega) (by omega)]
  by_cases h : A[A.length - (k + 1)] = B[B.length - (k + 1)]
  · simp [h]
  · rw [decide_eq_false h]
    simpa using h
theorem mapInt {x : Str} {i j : Int} {t : Tok} {v' : Option Value} {m : Str → Option Value} (e : i = j) : (fun y => if y = x then some (Value.int i t) else if y = x then v' else m y) = fun y => if y = x then some (Value.int j t) else m y := by
  subst e
  exact mapOne
/-- what it costs to turn one sign into another -/
def cst (c a : Nat) : Int := subCost (tx [c]) (tx [a])
/-- one row out of the row before -/
noncomputable def inner (c : Nat) : List Nat → List Int → Int → Int → List Int
  | a :: as, r :: rs, d, res => min (min res r + 2) (d + cst c a) :: inner c as rs r (min (min res r + 2) (d + cst c a))
  | _, _, _, _ => []
noncomputable def rowN (u v : List Nat) : Nat → List Int
  | 0 => rangeInts 2 2 u.length
  | j + 1 => inner (v.getD j 0) u (rowN u v j) (j * 2) (j * 2)
theorem inner_len (c : Nat) : ∀ (as : List Nat) (rs : List Int) (d r : Int), as.length = rs.length → (inner c as rs d r).length = as.length
  | [], [], _, _, _ => rfl
  | [], _ :: _, _, _, h => by simp at h
  | _ :: _, [], _, _, h => by simp at h
  | a :: as, r :: rs, d, res, h => by
    simp only [inner, List.length_cons]
    rw [inner_len c as rs _ _ (by simpa using h)]
theorem inner_getD (c : Nat) : ∀ (as : List Nat) (rs : List Int) (d r : Int) (i : Nat), as.length = rs.length → i < as.length →
    (inner c as rs d r).getD i 0 = min (min (if i = 0 then r else (inner c as rs d r).getD (i - 1) 0) (rs.getD i 0) + 2) ((if i = 0 then d else rs.getD (i - 1) 0) + cst c (as.getD i 0))
  | [], _, _, _, _, _, hi => by simp at hi
  | _ :: _, [], _, _, _, h, _ => by simp at h
  | a :: as, r :: rs, d, res, 0, _, _ => by simp [inner]
  | a :: as, r :: rs, d, res, i + 1, h, hi => by
    simp only [inner, List.getD_cons_succ]
    rw [inner_getD c as rs _ _ i (by simpa using h) (by simpa using hi)]
    cases i with
    | zero => simp
    | succ i => simp
theorem rangeInts_len (a c : Int) (n : Nat) : (rangeInts a c n).length = n := rangeInts_length a c n
theorem rowN_len (u v : List Nat) : ∀ j, (rowN u v j).length = u.length
  | 0 => by rw [rowN, rangeInts_len]
  | j + 1 => by rw [rowN, inner_len _ _ _ _ _ (rowN_len u v j).symm]
theorem mid_getD {A B : List Int} {i : Nat} (h : A.length = B.length) (hi : i < B.length) : (A.take i ++ B.drop i).getD i 0 = B.getD i 0 := by
  have hl : (A.take i).length = i := by rw [List.length_take]; omega
  rw [List.getD_eq_getElem?_getD, List.getD_eq_getElem?_getD, List.getElem?_append_right (by omega), hl, List.getElem?_drop, Nat.sub_self, Nat.add_zero]
theorem mid_set {A B : List Int} {i : Nat} (h : A.length = B.length) (hi : i < B.length) : (A.take i ++ B.drop i).set i (A.getD i 0) = A.take (i + 1) ++ B.drop (i + 1) := by
  have hl : (A.take i).length = i := by rw [List.length_take]; omega
  have hA : i < A.length := by omega
  have hg : A.getD i 0 = A[i] := by simp [hA]
  rw [List.set_append_right _ _ (by omega), hl, Nat.sub_self, List.drop_eq_getElem_cons hi, List.set_cons_zero, hg, List.take_succ_eq_append_getElem hA, List.append_assoc, List.singleton_append]
theorem mid_step {u v : List Nat} {i j : Nat} {di re o : Int} (hi : i < u.length) (hj : j < v.length) (hdi : (if i = 0 then (j * 2 : Int) else (rowN u v j).getD (i - 1) 0) = di)
    (hre : (if i = 0 then (j * 2 : Int) else (rowN u v (j + 1)).getD (i - 1) 0) = re) (ho : o = (rowN u v j).getD i 0) :
    (if di + subCost (Txt.item (tx v) (j : Int)) (Txt.item (tx u) (i : Int)) < (if o < re then o else re) + 2 then di + subCost (Txt.item (tx v) (j : Int)) (Txt.item (tx u) (i : Int)) else (if o < re then o else re) + 2) = (rowN u v (j + 1)).getD i 0 := by
  rw [item_at v j hj, item_at u i hi]
  have e := inner_getD (v.getD j 0) u (rowN u v j) (j * 2) (j * 2) i (rowN_len u v j).symm hi
  have hv : v.getD j 0 = v[j] := by simp [hj]
  have hu : u.getD i 0 = u[i] := by simp [hi]
  have hr : rowN u v (j + 1) = inner (v.getD j 0) u (rowN u v j) (j * 2) (j * 2) := rfl
  rw [hr] at hre ⊢
  rw [e, hdi, hre, ← ho, hv, hu, cst]
  have m1 : (if o < re then o else re) = min re o := by split <;> omega
  rw [m1]
  split <;> omega
def sh (a b : List Nat) : List Nat := if b.length < a.length then b else a
def lo (a b : List Nat) : List Nat := if b.length < a.length then a else b
noncomputable def levR (a b : List Nat) : Int := if a = [] ∨ b = [] then 2 * (a.length + b.length) else (rowN (sh a b) (lo a b) (lo a b).length).getLastD 0
/-- the rows never leave the bound -/
def Fits (a b : List Nat) (mx : Int) : Prop := a.length ≤ 40 ∧ b.length ≤ 40 ∧ (((lo a b).length : Int) - (sh a b).length) * 2 ≤ mx ∧ ∀ j, j < (lo a b).length → ∃ v ∈ rowN (sh a b) (lo a b) (j + 1), v ≤ mx
local macro_rules | `(tactic| walk_at "call ref") => `(tactic| (refine' subst_K ?k1 ?k2 ?k3 ?k4 ?k5 ?kA ?kF ?kK ?kd ?ku ?kh ?ka ?kb ?_; (case k1 => k_asm); (case k2 => k_asm); (case k3 => k_asm); (case k4 => k_asm); (case k5 => k_asm); (case kA => exact rfl); (case kF => exact rfl); (case kK => exact rfl); (case kd => (show _ + 1 + 10 < recursionLimit; dsimp only; omega)); (case ku => (show _ + 3 + 100 < cLine; dsimp only; omega)); (case kh => exact rfl); (case ka => omega); (case kb => omega); intro h' tk' t' F' N'; (try k_sweep); (try dsimp only)))
local macro_rules | `(tactic| k_all) => `(tactic| assumption)
local macro_rules | `(tactic| walk_at "mine steps 2") => `(tactic| repeat' ((fail_if_success (with_reducible show wpAny _ _ (execs (Stmt.If (Expr.Compare _ _ _ _) _ _ _ :: _) _) _ _ _)); walk_at "mine step"))
local macro_rules | `(tactic| walk_at "mine steps 3") => `(tactic| repeat' ((fail_if_success (with_reducible show wpAny _ _ (pyIter _) _ _ _)); (fail_if_success (with_reducible show InvPostN _ _ _ _ _ _ _ _ _)); (fail_if_success (with_reducible show InvEndN _ _ _ _ _ _ _)); walk_at "mine step"))
set_option maxRecDepth 100000 in
set_option maxHeartbeats 4000000 in
theorem lev_call {w : World} {A : Around} {s : Shared} {Q E : Value → Shared → Prop} (C : Cx w A s 20 200) {Al Bl : List Nat} {ta tb : Tok} {mx : Int} {tm : Tok} {P a2 b2 S : List Nat}
    (hA : Al = P ++ (a2 ++ S)) (hB : Bl = P ++ (b2 ++ S)) (hal : Al.length ≤ 100) (hbl : Bl.length ≤ 100)
    (hpre : a2 ++ S = [] ∨ b2 ++ S = [] ∨ (a2 ++ S).head? ≠ (b2 ++ S).head?) (hpost : a2 = [] ∨ b2 = [] ∨ a2.getLast? ≠ b2.getLast?)
    (hfit : a2 ≠ [] → b2 ≠ [] → Fits a2 b2 mx)
    (hQ : ∀ h' tk t1, Keeps' s.heap h' → Q (.int (if Al = Bl then 0 else levR a2 b2) t1) { s with heap := h', toks := tk }) :
    wpAny (model PR w) A (call (.ref 35) [.str (tx Al) ta, .str (tx Bl) tb, .int mx tm]) Q E s := by
  refine' enterS [(Str.ofString "a", .str (tx Al) ta), (Str.ofString "b", .str (tx Bl) tb), (Str.ofString "max_cost", .int mx tm)] (d := 19) (u := 197) C ?k6 ?k7 ?k9 ?kB ?_ ?c2 ?c3 ?c4 ?c5
  walk_at "mine enter"
  intro dp un gd env outer base L' h' pp loose mean mg mb F' N' B' X' T' hdp hun
  have lA := tx_len Al
  have lB := tx_len Bl
  (try dsimp only)
  (try k_fold)
  walk_at "mine steps"
  · rename (_ == _) = true => he
    have he' : Al = Bl := by simpa using he
    rw [if_pos he'] at hQ
    exact hQ _ _ _ (Fr.keep (by assumption))
  rename (_ == _) = false => hne
  have hne' : ¬ Al = Bl := by simpa using hne
  rw [if_neg hne'] at hQ
  clear hne hne'
  rename Fr _ _ _ _ => F0
  rename News _ _ _ _ => N
  obtain ⟨t₀, F⟩ : ∃ t₀, Fr s.heap L' _ (fun y => if y = Str.ofString "pre" then some (.int 0 t₀) else List.lookup y [(Str.ofString "a", Value.str (tx Al) ta), (Str.ofString "b", Value.str (tx Bl) tb), (Str.ofString "max_cost", Value.int mx tm)].reverse) := ⟨_, F0⟩
  clear F0
  refine wpAny_mono (Q := fun f s' => Stop (f = .next ∧ ∃ h' tk t, s' = { s with heap := h', toks := tk } ∧ News s.heap L' h' [] ∧
    Fr s.heap L' h' (fun y => if y = Str.ofString "pre" then some (.int P.length t) else List.lookup y [(Str.ofString "a", Value.str (tx Al) ta), (Str.ofString "b", Value.str (tx Bl) tb), (Str.ofString "max_cost", Value.int mx tm)].reverse))) ?_ ?_ (fun _ _ x => x)
  · refine While_inv (n₀ := P.length) (fun n m₁ news₁ => ∃ (k : Nat) (t₁ : Tok), k ≤ P.length ∧ n = P.length - k ∧ news₁ = [] ∧
      m₁ = fun y => if y = Str.ofString "pre" then some (.int k t₁) else List.lookup y [(Str.ofString "a", Value.str (tx Al) ta), (Str.ofString "b", Value.str (tx Bl) tb), (Str.ofString "max_cost", Value.int mx tm)].reverse)
      F N ⟨0, t₀, Nat.zero_le _, by simp, rfl, rfl⟩ ?_
    clear F N
    rintro n m₁ news₁ h₁ tk₁ F N ⟨k, t₁, hk, rfl, rfl, rfl⟩
    have hka : k ≤ Al.length := by rw [hA]; simp; omega
    have hkb : k ≤ Bl.length := by rw [hB]; simp; omega
    walk_at "mine steps"
    · rename (_ == _) = true => he
      have h1 : k < Al.length := by omega
      have h2 : k < Bl.length := by omega
      rw [item_eq h1 h2, decide_eq_true_eq] at he
      have hk' : k < P.length := by subst hA hB; exact pre_step hk h1 h2 hpre he
      refine WhileStep.intro (n' := P.length - (k + 1)) (by assumption) (by assumption) (by omega) ⟨k + 1, _, by omega, rfl, rfl, mapOne⟩
    · rename (Txt.item _ _ == _) = false => he
      have h1 : k < Al.length := by omega
      have h2 : k < Bl.length := by omega
      rw [item_eq h1 h2, decide_eq_false_iff_not] at he
      have hk' : k = P.length := by subst hA hB; exact pre_stop hk h1 h2 he
      subst hk'
      exact ⟨by first | rfl | trivial, _, _, _, rfl, by assumption, by assumption⟩
    all_goals (
      have hk' : k = P.length := by subst hA hB; simp only [List.length_append] at *; omega
      subst hk'
      exact ⟨by first | rfl | trivial, _, _, _, rfl, by assumption, by assumption⟩)
  · rintro f s' ⟨rfl, h₂, tk₂, tp, rfl, N₂, F₂⟩
    dsimp only
    walk_at "mine steps"
    rename Fr _ _ _ _ => F0
    rename News _ _ _ _ => N
    have e1 : Txt.slice (tx Al) (some (P.length : Int)) none = tx (a2 ++ S) := by rw [slice_from Al _ (by rw [hA]; simp), hA, List.drop_left]
    have e2 : Txt.slice (tx Bl) (some (P.length : Int)) none = tx (b2 ++ S) := by rw [slice_from Bl _ (by rw [hB]; simp), hB, List.drop_left]
    rw [e1, e2] at F0
    obtain ⟨t₀, t₁, t₂, F⟩ : ∃ t₀ t₁ t₂, Fr s.heap L' _ (fun y => if y = Str.ofString "post" then some (.int (-((0 : Nat) : Int)) t₀) else if y = Str.ofString "b" then some (.str (tx (b2 ++ S)) t₁) else if y = Str.ofString "a" then some (.str (tx (a2 ++ S)) t₂)
      else if y = Str.ofString "pre" then some (.int P.length tp) else List.lookup y [(Str.ofString "a", Value.str (tx Al) ta), (Str.ofString "b", Value.str (tx Bl) tb), (Str.ofString "max_cost", Value.int mx tm)].reverse) := ⟨_, _, _, F0⟩
    clear F0
    refine wpAny_mono (Q := fun f s' => Stop (f = .next ∧ ∃ h' tk t, s' = { s with heap := h', toks := tk } ∧ News s.heap L' h' [] ∧
      Fr s.heap L' h' (fun y => if y = Str.ofString "post" then some (.int (-(S.length : Int)) t) else if y = Str.ofString "b" then some (.str (tx (b2 ++ S)) t₁) else if y = Str.ofString "a" then some (.str (tx (a2 ++ S)) t₂)
        else if y = Str.ofString "pre" then some (.int P.length tp) else List.lookup y [(Str.ofString "a", Value.str (tx Al) ta), (Str.ofString "b", Value.str (tx Bl) tb), (Str.ofString "max_cost", Value.int mx tm)].reverse))) ?_ ?_ (fun _ _ x => x)
    · refine While_inv (n₀ := S.length) (fun n m₁ news₁ => ∃ (k : Nat) (t' : Tok), k ≤ S.length ∧ n = S.length - k ∧ news₁ = [] ∧
        m₁ = fun y => if y = Str.ofString "post" then some (.int (-(k : Int)) t') else if y = Str.ofString "b" then some (.str (tx (b2 ++ S)) t₁) else if y = Str.ofString "a" then some (.str (tx (a2 ++ S)) t₂)
          else if y = Str.ofString "pre" then some (.int P.length tp) else List.lookup y [(Str.ofString "a", Value.str (tx Al) ta), (Str.ofString "b", Value.str (tx Bl) tb), (Str.ofString "max_cost", Value.int mx tm)].reverse)
        F N ⟨0, t₀, Nat.zero_le _, by simp, rfl, rfl⟩ ?_
      clear F N
      rintro n m₁ news₁ h₁ tk₁ F N ⟨k, t', hk, rfl, rfl, rfl⟩
      have lka := tx_len (a2 ++ S)
      have lkb := tx_len (b2 ++ S)
      have bka : (tx (a2 ++ S)).length ≤ 100 := by rw [lka]; rw [hA] at hal; simp only [List.length_append] at *; omega
      have bkb : (tx (b2 ++ S)).length ≤ 100 := by rw [lkb]; rw [hB] at hbl; simp only [List.length_append] at *; omega
      have hka : k ≤ (a2 ++ S).length := by simp; omega
      have hkb : k ≤ (b2 ++ S).length := by simp; omega
      have stop : ∀ (h' : Heap) (tk : Nat), (∀ (h1 : k < (a2 ++ S).length) (h2 : k < (b2 ++ S).length), (a2 ++ S)[(a2 ++ S).length - (k + 1)] ≠ (b2 ++ S)[(b2 ++ S).length - (k + 1)]) → k = S.length := fun h' tk hne => by
        rcases Nat.lt_or_ge k (a2 ++ S).length with h1 | h1
        · rcases Nat.lt_or_ge k (b2 ++ S).length with h2 | h2
          · exact post_stop hk h1 h2 (hne h1 h2)
          · simp only [List.length_append] at h2; omega
        · simp only [List.length_append] at h1; omega
      rcases Nat.eq_zero_or_pos k with hk0 | hk0
      · have hk1 : -(k : Int) = 0 := by omega
        have lna : ((Txt.slice (tx (a2 ++ S)) none none).length : Int) = ((a2 ++ S).length : Int) := by rw [slice_all, tx_len]
        have lnb : ((Txt.slice (tx (b2 ++ S)) none none).length : Int) = ((b2 ++ S).length : Int) := by rw [slice_all, tx_len]
        walk_at "mine steps"
        · rename (Txt.item _ _ == _) = true => he
          have h1 : k < (a2 ++ S).length := by omega
          have h2 : k < (b2 ++ S).length := by omega
          rw [itemN_eq h1 h2, decide_eq_true_eq] at he
          have hk' : k < S.length := post_step hk h1 h2 hpost he
          exact WhileStep.intro (n' := S.length - (k + 1)) (by assumption) (by assumption) (by omega) ⟨k + 1, _, by omega, rfl, rfl, mapInt (by omega)⟩
        · rename (Txt.item _ _ == _) = false => he
          have h1 : k < (a2 ++ S).length := by omega
          have h2 : k < (b2 ++ S).length := by omega
          rw [itemN_eq h1 h2, decide_eq_false_iff_not] at he
          have hk' : k = S.length := stop s.heap 0 fun _ _ => he
          subst hk'
          exact ⟨by first | rfl | trivial, _, _, _, rfl, by assumption, by assumption⟩
        all_goals (
          have hk' : k = S.length := stop s.heap 0 fun h1 h2 => by exfalso; omega
          subst hk'
          exact ⟨by first | rfl | trivial, _, _, _, rfl, by assumption, by assumption⟩)
      · have hk1 : -(k : Int) ≠ 0 := by omega
        have lna : ((Txt.slice (tx (a2 ++ S)) none (some (-(k : Int)))).length : Int) = ((a2 ++ S).length : Int) - k := by rw [slice_neg _ _ hk0 hka, tx_len, List.length_take]; omega
        have lnb : ((Txt.slice (tx (b2 ++ S)) none (some (-(k : Int)))).length : Int) = ((b2 ++ S).length : Int) - k := by rw [slice_neg _ _ hk0 hkb, tx_len, List.length_take]; omega
        walk_at "mine steps"
        · rename (Txt.item _ _ == _) = true => he
          have h1 : k < (a2 ++ S).length := by omega
          have h2 : k < (b2 ++ S).length := by omega
          rw [itemN_eq h1 h2, decide_eq_true_eq] at he
          have hk' : k < S.length := post_step hk h1 h2 hpost he
          exact WhileStep.intro (n' := S.length - (k + 1)) (by assumption) (by assumption) (by omega) ⟨k + 1, _, by omega, rfl, rfl, mapInt (by omega)⟩
        · rename (Txt.item _ _ == _) = false => he
          have h1 : k < (a2 ++ S).length := by omega
          have h2 : k < (b2 ++ S).length := by omega
          rw [itemN_eq h1 h2, decide_eq_false_iff_not] at he
          have hk' : k = S.length := stop s.heap 0 fun _ _ => he
          subst hk'
          exact ⟨by first | rfl | trivial, _, _, _, rfl, by assumption, by assumption⟩
        all_goals (
          have hk' : k = S.length := stop s.heap 0 fun h1 h2 => by exfalso; omega
          subst hk'
          exact ⟨by first | rfl | trivial, _, _, _, rfl, by assumption, by assumption⟩)
--REST
    · clear F N
      rintro f s' ⟨rfl, h₂, tk₂, t₃, rfl, N, F⟩
      have lka := tx_len (a2 ++ S)
      have lkb := tx_len (b2 ++ S)
      have bka : (tx (a2 ++ S)).length ≤ 100 := by rw [lka]; rw [hA] at hal; simp only [List.length_append] at *; omega
      have bkb : (tx (b2 ++ S)).length ≤ 100 := by rw [lkb]; rw [hB] at hbl; simp only [List.length_append] at *; omega
      have eqa : ∀ R : List Nat, 0 < S.length → Txt.slice (tx (R ++ S)) none (some (-(S.length : Int))) = tx R := fun R h => by
        rw [slice_neg _ _ h (by simp), List.length_append, Nat.add_sub_cancel, List.take_left]
      have eqb : ∀ R : List Nat, -(S.length : Int) = 0 → Txt.slice (tx (R ++ S)) none none = tx R := fun R h => by
        have : S = [] := List.length_eq_zero_iff.mp (by omega)
        rw [slice_all, this, List.append_nil]
      dsimp only
      refine wpAny_execs_cons ?_
      refine wpAny_mono (Q := fun f s' => Stop (f = .next ∧ ∃ h' tk t₁ t₂ t₃, ∃ m₀ : Str → Option Value, s' = { s with heap := h', toks := tk } ∧ News s.heap L' h' [] ∧
        Fr s.heap L' h' (fun y => if y = Str.ofString "a" then some (.str (tx a2) t₁) else if y = Str.ofString "b" then some (.str (tx (b2 ++ S)) t₂) else if y = Str.ofString "post" then some (.int (-(S.length : Int)) t₃)
          else if y = Str.ofString "max_cost" then some (Value.int mx tm) else m₀ y))) ?_ ?_ (fun _ _ x => x)
      · walk_at "mine steps"
        · rename Fr _ _ _ _ => F'
          rw [eqa a2 (by omega)] at F'
          exact ⟨rfl, _, _, _, _, _, _, rfl, by assumption, frPick _ (frPick _ (frPick _ (frPick _ F' rfl) rfl) rfl) rfl⟩
        · rename Fr _ _ _ _ => F'
          rw [eqb a2 (by omega)] at F'
          exact ⟨rfl, _, _, _, _, _, _, rfl, by assumption, frPick _ (frPick _ (frPick _ (frPick _ F' rfl) rfl) rfl) rfl⟩
      clear F N
      rintro f s' ⟨rfl, h₂, tk₂, t₁, t₂, t₃, m₀, rfl, N, F⟩
      dsimp only
      refine wpAny_execs_cons ?_
      refine wpAny_mono (Q := fun f s' => Stop (f = .next ∧ ∃ h' tk t₁ t₂, ∃ m₀ : Str → Option Value, s' = { s with heap := h', toks := tk } ∧ News s.heap L' h' [] ∧
        Fr s.heap L' h' (fun y => if y = Str.ofString "a" then some (.str (tx a2) t₁) else if y = Str.ofString "b" then some (.str (tx b2) t₂)
          else if y = Str.ofString "max_cost" then some (Value.int mx tm) else m₀ y))) ?_ ?_ (fun _ _ x => x)
      · walk_at "mine steps"
        · rename Fr _ _ _ _ => F'
          rw [eqa b2 (by omega)] at F'
          exact ⟨rfl, _, _, _, _, _, rfl, by assumption, frPick _ (frPick _ (frPick _ F' rfl) rfl) rfl⟩
        · rename Fr _ _ _ _ => F'
          rw [eqb b2 (by omega)] at F'
          exact ⟨rfl, _, _, _, _, _, rfl, by assumption, frPick _ (frPick _ (frPick _ F' rfl) rfl) rfl⟩
      clear F N eqa eqb
      rintro f s' ⟨rfl, h₂, tk₂, t₁, t₂, m₀, rfl, N, F⟩
      have la2 := tx_len a2
      have lb2 := tx_len b2
      have ba2 : a2.length ≤ 100 := by simp only [List.length_append] at *; omega
      have bb2 : b2.length ≤ 100 := by simp only [List.length_append] at *; omega
      clear lka lkb bka bkb e1 e2 hA hB hal hbl lA lB
      by_cases h0 : a2 = [] ∨ b2 = []
      · rw [levR, if_pos h0, ← la2, ← lb2] at hQ
        have hz : ((tx a2).length : Int) = 0 ∨ ((tx b2).length : Int) = 0 := by rcases h0 with rfl | rfl <;> simp [tx_len]
        clear h0 hfit hpre hpost
        dsimp only
        rcases hz with hz | hz
        all_goals (walk_at "mine steps 2")
        all_goals first | (exfalso; omega) | exact hQ _ _ _ (Fr.keep (by assumption))
--CASEB
      · rw [levR, if_neg h0] at hQ
        have ha0 : a2 ≠ [] := fun e => h0 (.inl e)
        have hb0 : b2 ≠ [] := fun e => h0 (.inr e)
        obtain ⟨f1, f2, f3, f4⟩ := hfit ha0 hb0
        have la0 : ((tx a2).length : Int) ≠ 0 := by
          have := List.length_pos_iff.mpr ha0
          omega
        have lb0 : ((tx b2).length : Int) ≠ 0 := by
          have := List.length_pos_iff.mpr hb0
          omega
        have lsh := tx_len (sh a2 b2)
        have llo := tx_len (lo a2 b2)
        have bsh : (sh a2 b2).length ≤ 40 ∧ 0 < (sh a2 b2).length := by unfold sh; split <;> omega
        have blo : (lo a2 b2).length ≤ 40 ∧ 0 < (lo a2 b2).length := by unfold lo; split <;> omega
        clear h0 ha0 hb0 hfit hpre hpost
        dsimp only
        walk_at "mine steps 2"
        refine wpAny_execs_cons ?_
        refine wpAny_mono (Q := fun f s' => Stop (f = .next ∧ ∃ h' tk t₁ t₂, ∃ m₀ : Str → Option Value, s' = { s with heap := h', toks := tk } ∧ News s.heap L' h' [] ∧
          Fr s.heap L' h' (fun y => if y = Str.ofString "a" then some (.str (tx (sh a2 b2)) t₁) else if y = Str.ofString "b" then some (.str (tx (lo a2 b2)) t₂)
            else if y = Str.ofString "max_cost" then some (Value.int mx tm) else m₀ y))) ?_ ?_ (fun _ _ x => x)
        · walk_at "mine steps 2"
          · rename ((tx b2).length : Int) < _ => hlt
            have e1 : sh a2 b2 = b2 := if_pos (by omega)
            have e2 : lo a2 b2 = a2 := if_pos (by omega)
            rw [e1, e2]
            exact ⟨by first | rfl | trivial, _, _, _, _, _, rfl, News.nil, frPick _ (frPick _ (frPick _ (by assumption) rfl) rfl) rfl⟩
          · rename ¬ ((tx b2).length : Int) < _ => hlt
            have e1 : sh a2 b2 = a2 := if_neg (by omega)
            have e2 : lo a2 b2 = b2 := if_neg (by omega)
            rw [e1, e2]
            exact ⟨by first | rfl | trivial, _, _, _, _, _, rfl, News.nil, frPick _ (frPick _ (frPick _ (by assumption) rfl) rfl) rfl⟩
        clear F N la0 lb0 f1 f2 la2 lb2 ba2 bb2
        rintro f s' ⟨rfl, h₂, tk₂, t₁, t₂, m₀, rfl, N, F⟩
        generalize sh a2 b2 = u at *
        generalize lo a2 b2 = v at *
        have f3' : ¬ mx < (((tx v).length : Int) - (tx u).length) * 2 := by omega
        dsimp only
        walk_at "mine steps 3"
        refine list_range_K (n := u.length) rfl (by assumption) (by assumption) (by assumption) ?_ ?_ ?_ ?_
        · rw [lsh]; exact small2 (by omega)
        · rw [lsh]; exact rs2 _
        · omega
        intro h₃ tk₃ ra c₃ ys F N lt hys
        k_sweep
        clear lt
        have lys : ys.length = u.length := by rw [hys.length, rangeInts_length]
        walk_at "mine steps 3"
        rename IntsAre ys _ => hys
        rename IsRange _ _ 0 _ 1 _ _ _ => R₅
        rename Fr _ _ _ _ => F₅
        rename News _ _ _ _ => N₅
        obtain ⟨tr, F⟩ : ∃ tr, Fr s.heap L' _ (fun y => if y = Str.ofString "result" then some (.int 0 tr) else if y = Str.ofString "row" then some (.ref ra) else if y = Str.ofString "a" then some (.str (tx u) t₁) else if y = Str.ofString "b" then some (.str (tx v) t₂)
          else if y = Str.ofString "max_cost" then some (Value.int mx tm) else m₀ y) := ⟨_, F₅⟩
        clear F₅
        refine iter_rangeJ (n := v.length) (fun j m₁ nx => ∃ (tr : Tok) (ys : List Value) (c : Nat) (m₀ : Str → Option Value), nx = [(ra, listOf ys.toArray c)] ∧ IntsAre ys (rowN u v j) ∧
          m₁ = fun y => if y = Str.ofString "result" then some (.int (if j = 0 then 0 else (rowN u v j).getLastD 0) tr) else if y = Str.ofString "row" then some (.ref ra) else if y = Str.ofString "a" then some (.str (tx u) t₁) else if y = Str.ofString "b" then some (.str (tx v) t₂)
          else if y = Str.ofString "max_cost" then some (Value.int mx tm) else m₀ y) rfl R₅ ?_ ?_ F N₅ ⟨tr, ys, c₃, m₀, rfl, hys, rfl⟩ ?_ ?_
        · rw [llo]; exact small1 (by omega)
        · rw [llo]; exact rs1 _
        · clear F N₅
          rintro j tj m₁ nx h tk own hj - ho ⟨tr', zs, c₆, m₆, rfl, hzs, rfl⟩ F N
          have hoff : ∀ p ∈ own, p.1 ≠ ra := fun p hp => ho p hp ra (by simp)
          replace F : Fr s.heap L' _ _ := F
          replace N : News s.heap L' h ((ra, listOf zs.toArray c₆) :: own) := N
          have lzs : zs.length = u.length := by rw [hzs.length, rowN_len]
          have hj' : (j : Int) < (tx v).length := by omega
          clear ho hQ
          walk_at "mine steps 3"
          rename IntsAre zs _ => hzs
          rename IsRange _ _ 0 _ 1 _ _ _ => R₇
          rename Fr _ _ _ _ => F₇
          rename News _ _ _ _ => N₇
          have F : ∃ td tr tn tb, ∃ m₀ : Str → Option Value, Fr s.heap L' _ (fun y => if y = Str.ofString "distance" then some (.int (j * 2) td) else if y = Str.ofString "result" then some (.int (j * 2) tr) else if y = Str.ofString "minimum" then some (.int 9223372036854775807 tn)
            else if y = Str.ofString "bchar" then some (.str (Txt.item (tx v) j) tb) else if y = Str.ofString "row" then some (.ref ra) else if y = Str.ofString "a" then some (.str (tx u) t₁) else if y = Str.ofString "b" then some (.str (tx v) t₂)
            else if y = Str.ofString "max_cost" then some (Value.int mx tm) else m₀ y) := ⟨_, _, _, _, _, frPick _ (frPick _ (frPick _ (frPick _ (frPick _ (frPick _ (frPick _ (frPick _ F₇ rfl) rfl) rfl) rfl) rfl) rfl) rfl) rfl⟩
          obtain ⟨td, tr₂, tn, tb₂, m₇, F⟩ := F
          k_sweep
          clear F₇
          refine iter_rangeJ (n := u.length) (fun i m₁ nx => ∃ (td tr tn : Tok) (mn : Int) (ys : List Value) (c : Nat) (m₀ : Str → Option Value), nx = (ra, listOf ys.toArray c) :: own ∧
            IntsAre ys ((rowN u v (j + 1)).take i ++ (rowN u v j).drop i) ∧ (∀ x ∈ (rowN u v (j + 1)).take i, mn ≤ x) ∧
            m₁ = fun y => if y = Str.ofString "distance" then some (.int (if i = 0 then (j * 2 : Int) else (rowN u v j).getD (i - 1) 0) td) else if y = Str.ofString "result" then some (.int (if i = 0 then (j * 2 : Int) else (rowN u v (j + 1)).getD (i - 1) 0) tr) else if y = Str.ofString "minimum" then some (.int mn tn)
            else if y = Str.ofString "bchar" then some (.str (Txt.item (tx v) j) tb₂) else if y = Str.ofString "row" then some (.ref ra) else if y = Str.ofString "a" then some (.str (tx u) t₁) else if y = Str.ofString "b" then some (.str (tx v) t₂)
            else if y = Str.ofString "max_cost" then some (Value.int mx tm) else m₀ y) rfl R₇ ?_ ?_ F N₇ ⟨td, tr₂, tn, _, zs, c₆, m₇, rfl, by simpa using hzs, by simp, rfl⟩ ?_ ?_
          · rw [lsh]; exact small1 (by omega)
          · rw [lsh]; exact rs1 _
          · clear F N₇
            rintro i ti m₁ nx h tk own₂ hi - ho ⟨td, tr, tn, mn, ws, c₈, m₈, rfl, hws, hmn, rfl⟩ F N
            have hoff₂ : ∀ p ∈ own ++ own₂, p.1 ≠ ra := fun p hp => (List.mem_append.mp hp).elim (hoff p) fun h => ho p h ra (by simp)
            replace F : Fr s.heap L' _ _ := F
            replace N : News s.heap L' h ((ra, listOf ws.toArray c₈) :: (own ++ own₂)) := N
            have lr1 := rowN_len u v (j + 1)
            have lr0 := rowN_len u v j
            have lws : ((rowN u v (j + 1)).take i ++ (rowN u v j).drop i).length = u.length := by simp; omega
            have hi' : (i : Int) < (tx u).length := by omega
            have hi'' : (i : Int) < (((rowN u v (j + 1)).take i ++ (rowN u v j).drop i).length : Int) := by omega
            clear ho
            generalize hdi : (if i = 0 then (j * 2 : Int) else (rowN u v j).getD (i - 1) 0) = di at F
            generalize hre : (if i = 0 then (j * 2 : Int) else (rowN u v (j + 1)).getD (i - 1) 0) = re at F
            walk_at "mine steps 3"
            have eo : ((rowN u v (j + 1)).take i ++ (rowN u v j).drop i).getD (i : Int).toNat 0 = (rowN u v j).getD i 0 := by rw [Int.toNat_natCast]; exact mid_getD (by omega) (by omega)
            have eX := mid_step hi hj hdi hre eo
            have hws₂ := hws
            refine ksa_set (by assumption) (by assumption) (Upd.head hoff₂) hws₂ (by omega) (by omega) (by omega) ?_
            intro h' F' N' hws' _ _
            k_sweep
            rw [eX, eo] at F'
            rw [eX] at N' hws'
            rw [Int.toNat_natCast] at N' hws'
            rw [mid_set (by omega) (by omega)] at hws'
            clear hws hws₂ eX eo
            have hnew : ∀ x ∈ (rowN u v (j + 1)).take (i + 1), (∀ y ∈ (rowN u v (j + 1)).take i, mn ≤ y) → min mn ((rowN u v (j + 1)).getD i 0) ≤ x := fun x hx hy => by
              rw [List.take_add_one] at hx
              rcases List.mem_append.mp hx with q | q
              · have := hy x q; omega
              · rw [List.getElem?_eq_getElem (by omega)] at q
                simp at q
                have : (rowN u v (j + 1)).getD i 0 = x := by rw [List.getD_eq_getElem?_getD, List.getElem?_eq_getElem (by omega), q]; rfl
                omega
            generalize ws.set i _ = ws₃ at N' hws'
            generalize hx : (rowN u v (j + 1)).getD i 0 = x at *
            dsimp only
            walk_at "mine steps 3"
            · rename x < mn => hlt
              have F := frPick (Str.ofString "distance") (frPick (Str.ofString "result") (frPick (Str.ofString "minimum") (frPick (Str.ofString "bchar") (frPick (Str.ofString "row") (frPick (Str.ofString "a") (frPick (Str.ofString "b") (frPick (Str.ofString "max_cost") (show Fr _ _ _ _ by assumption) rfl) rfl) rfl) rfl) rfl) rfl) rfl) rfl
              subst hx
              exact invEnd2 F (by assumption) ⟨_, _, _, _, ws₃, c₈, _, rfl, hws', fun y hy => (by have := hnew y hy hmn; omega), rfl⟩ rfl
            · rename ¬ x < mn => hlt
              have F := frPick (Str.ofString "distance") (frPick (Str.ofString "result") (frPick (Str.ofString "minimum") (frPick (Str.ofString "bchar") (frPick (Str.ofString "row") (frPick (Str.ofString "a") (frPick (Str.ofString "b") (frPick (Str.ofString "max_cost") (show Fr _ _ _ _ by assumption) rfl) rfl) rfl) rfl) rfl) rfl) rfl) rfl
              subst hx
              exact invEnd2 F (by assumption) ⟨_, _, _, _, ws₃, c₈, _, rfl, hws', fun y hy => (by have := hnew y hy hmn; omega), rfl⟩ rfl
          · clear F N₇
            rintro m₁ nx h tk ⟨td, tr, tn, mn, ws, c₈, m₈, rfl, hws, hmn, rfl⟩ F N
            replace F : Fr s.heap L' _ _ := F
            replace N : News s.heap L' h ((ra, listOf ws.toArray c₈) :: own) := N
            have lr1 := rowN_len u v (j + 1)
            have lr0 := rowN_len u v j
            rw [List.take_of_length_le (by omega), List.drop_of_length_le (by omega), List.append_nil] at hws
            rw [List.take_of_length_le (by omega)] at hmn
            obtain ⟨x, hx, hxm⟩ := f4 j hj
            have hmx : ¬ mx < mn := by have := hmn x hx; omega
            have e : (if u.length = 0 then (j * 2 : Int) else (rowN u v (j + 1)).getD (u.length - 1) 0) = (rowN u v (j + 1)).getLastD 0 := by
              rw [if_neg (by omega), List.getLastD_eq_getLast?, List.getLast?_eq_getElem?, lr1, List.getD_eq_getElem?_getD]
            rw [e] at F
            clear hmn f4
            dsimp only
            walk_at "mine steps 3"
            have F := frPick (Str.ofString "result") (frPick (Str.ofString "row") (frPick (Str.ofString "a") (frPick (Str.ofString "b") (frPick (Str.ofString "max_cost") (show Fr _ _ _ _ by assumption) rfl) rfl) rfl) rfl) rfl
            exact invEnd2 (own := []) F (by assumption) ⟨_, ws, c₈, _, rfl, hws, rfl⟩ rfl
        · clear F N₅
          rintro m₁ nx h tk ⟨tr', zs, c₆, m₆, rfl, hzs, rfl⟩ F N
          replace F : Fr s.heap L' _ _ := F
          replace N : News s.heap L' h [(ra, listOf zs.toArray c₆)] := N
          rw [if_neg (by omega)] at F
          clear f4 hzs
          dsimp only
          walk_at "mine steps 3"
          exact hQ _ _ _ (Fr.keep (by assumption))
end Mine
end B4Part

/-! C1 -/
section C1Part
open PySem PySem.W PyProof.Rows
set_option maxRecDepth 100000
namespace Mine
section
variable {prog : Program} {w : World} {A : Around} {R : Result → Shared → Prop} {s : Shared}
variable {elt t0 i0 t1 i1 : Expr} {scope : Scope} {pos : Pos} {it acc : Value} {env : Env}
/-- a comprehension of two clauses -/
abbrev twoC (elt t0 i0 t1 i1 : Expr) (scope : Scope) (pos : Pos) : Expr := .ListComp elt [⟨t0, i0, [], 0⟩, ⟨t1, i1, [], 0⟩] scope pos
theorem turn0_eq : compTurn (twoC elt t0 i0 t1 i1 scope pos) 0 it acc env = (standAt i0.pos >>= fun _ => pyNext it >>= fun r => match r with
      | none => pure (.done .next)
      | some v => letOwnedTupleGo t0 it v >>= fun _ => assign t0 env v >>= fun _ =>
        (eval i1 env >>= fun x => standAt i1.pos >>= fun _ => foldedSetIterable i1 env x >>= fun x => holding [x] (pyIter x) >>= fun it1 => runOwn (.compStart (twoC elt t0 i0 t1 i1 scope pos) 1 it1 acc env) env >>= fun _ =>
          again (.compLoop (twoC elt t0 i0 t1 i1 scope pos) 0 it acc env))) := by rfl
theorem turn1_eq : compTurn (twoC elt t0 i0 t1 i1 scope pos) 1 it acc env = (standAt i1.pos >>= fun _ => pyNext it >>= fun r => match r with
      | none => pure (.done .next)
      | some v => letOwnedTupleGo t1 it v >>= fun _ => assign t1 env v >>= fun _ =>
        (eval elt env >>= fun x => call (.builtin "list.append") [acc, x] >>= fun _ => pure ()) >>= fun _ =>
          again (.compLoop (twoC elt t0 i0 t1 i1 scope pos) 1 it acc env)) := by rfl
theorem loop1 (I : Nat → Shared → Prop)
    (turn : ∀ n s, I n s → wpAny (model prog w) A (pyNext it) (fun r s₁ => match r with
      | none => R (.ok .next) s₁
      | some v => wpAny (model prog w) A (assign t1 env v) (fun _ s₂ => wpAny (model prog w) A (eval elt env) (fun x s₃ =>
          wpAny (model prog w) A (call (.builtin "list.append") [acc, x]) (fun _ s₄ => ∃ m, m < n ∧ I m s₄) (fun _ _ => False) s₃)
          (fun _ _ => False) s₂) (fun _ _ => False) s₁) (fun _ _ => False) s)
    (n : Nat) (h : I n s) (ht : ∀ v, letOwnedTupleGo t1 it v = pure ()) :
    codeAny (model prog w) A (.compLoop (twoC elt t0 i0 t1 i1 scope pos) 1 it acc env) R s := by
  refine codeAny_loop rfl I (fun n s hI => ?_) n h
  show wpAny _ _ ((compTurn (twoC elt t0 i0 t1 i1 scope pos) 1 it acc env).onRaise (fun x => do noteFrame x env; theTreesLotGoes x)) _ _ s
  refine wpAny_noted ?_
  rw [turn1_eq]
  refine wpAny_bind (wpAny_standAt (wpAny_bind (wpAny_mono (turn n s hI) (fun r s₁ h₁ => ?_) fun _ _ h' => h'.elim)))
  cases r with
  | none => exact wpAny_pure h₁
  | some v =>
    refine wpAny_bind (wpAny_of_eq (ht v) ?_)
    exact wpAny_bind (wpAny_mono h₁ (fun _ s₂ h₂ => wpAny_bind (wpAny_bind (wpAny_mono h₂ (fun x s₃ h₃ => wpAny_bind (wpAny_mono h₃
      (fun _ s₄ h₄ => wpAny_pure (wpAny_pure ⟨rfl, h₄⟩)) fun _ _ h' => h'.elim)) fun _ _ h' => h'.elim))) fun _ _ h' => h'.elim)
theorem start1 (h0 : codeAny (model prog w) A (.compLoop (twoC elt t0 i0 t1 i1 scope pos) 1 it acc env) R s)
    (h : wpAny (model prog w) A (pyIter it) (fun it' s' => codeAny (model prog w) A (.compLoop (twoC elt t0 i0 t1 i1 scope pos) 1 it' acc env) R s') (fun _ _ => False) s) :
    codeAny (model prog w) A (.compStart (twoC elt t0 i0 t1 i1 scope pos) 1 it acc env) R s := by
  refine codeAny_of_tree ?_
  show wpAny _ _ ((compStart (twoC elt t0 i0 t1 i1 scope pos) 1 it acc env).onRaise (fun x => do noteFrame x env; standAt theWindowsPlace)) _ _ s
  refine wpAny_notedAt ?_
  unfold compStart
  show wpAny _ _ (ask >>= _) _ _ s
  refine wpAny_bind (wpAny_askSetting (wpAny_ite ?_))
  split
  · first
      | exact wpAny_bind (wpAny_pure (wpAny_pure (And.intro rfl h0)))
      | exact wpAny_pure (And.intro rfl h0)
  · refine wpAny_bind (wpAny_rule ?_)
    show wpAny _ _ (standAt i1.pos >>= _) _ _ s
    exact wpAny_bind (wpAny_standAt (wpAny_bind (wpAny_mono h (fun it' s' h' => wpAny_pure (And.intro rfl h')) fun _ _ x => x.elim)))
theorem loop0 (I : Nat → Shared → Prop) (hs : ∀ x, foldedSetIterable i1 env x = pure x)
    (turn : ∀ n s, I n s → wpAny (model prog w) A (pyNext it) (fun r s₁ => match r with
      | none => R (.ok .next) s₁
      | some v => wpAny (model prog w) A (assign t0 env v) (fun _ s₂ => wpAny (model prog w) A (eval i1 env) (fun x s₃ => wpAny (model prog w) A (pyIter x) (fun it1 s₄ =>
          codeAny (model prog w) A (.compStart (twoC elt t0 i0 t1 i1 scope pos) 1 it1 acc env) (fun r s₅ => match r with | .ok _ => ∃ m, m < n ∧ I m s₅ | .error _ => False) s₄)
          (fun _ _ => False) s₃) (fun _ _ => False) s₂) (fun _ _ => False) s₁) (fun _ _ => False) s)
    (n : Nat) (h : I n s) (ht : ∀ v, letOwnedTupleGo t0 it v = pure ()) :
    codeAny (model prog w) A (.compLoop (twoC elt t0 i0 t1 i1 scope pos) 0 it acc env) R s := by
  refine codeAny_loop rfl I (fun n s hI => ?_) n h
  show wpAny _ _ ((compTurn (twoC elt t0 i0 t1 i1 scope pos) 0 it acc env).onRaise (fun x => do noteFrame x env; theTreesLotGoes x)) _ _ s
  refine wpAny_noted ?_
  rw [turn0_eq]
  refine wpAny_bind (wpAny_standAt (wpAny_bind (wpAny_mono (turn n s hI) (fun r s₁ h₁ => ?_) fun _ _ h' => h'.elim)))
  cases r with
  | none => exact wpAny_pure h₁
  | some v =>
    refine wpAny_bind (wpAny_of_eq (ht v) ?_)
    refine wpAny_bind (wpAny_mono h₁ (fun _ s₂ h₂ => ?_) fun _ _ h' => h'.elim)
    refine wpAny_bind (wpAny_mono h₂ (fun x s₃ h₃ => ?_) fun _ _ h' => h'.elim)
    refine wpAny_bind (wpAny_standAt (wpAny_bind (wpAny_of_eq (hs x) ?_)))
    refine wpAny_bind (wpAny_holding (wpAny_mono h₃ (fun it1 s₄ h₄ => ?_) fun _ _ h' => h'.elim))
    refine wpAny_bind (wpAny_runOwn (h := none) (codeAny_mono h₄ fun r s₅ hr => ?_))
    cases r with
    | ok f => exact wpAny_pure ⟨rfl, hr⟩
    | error e => exact hr.elim
end
section
variable {prog : Program} {w : World} {A : Around} {E : Value → Shared → Prop} {env : Env}
theorem Paired.flat_len {α : Type} {G : α → List Value → Prop} {k : Nat} (hG : ∀ a ys, G a ys → ys.length ≤ k) : ∀ {l : List α} {yss : List (List Value)}, Paired G l yss → yss.flatten.length ≤ k * l.length
  | _, _, .nil => by simp
  | _, _, .cons h r => by
    have := Paired.flat_len hG r
    have := hG _ _ h
    simp only [List.flatten_cons, List.length_append, List.length_cons, Nat.mul_add]
    omega
theorem block_two {i0 i1 : Expr} {x y : Str} {px py pe : Pos} {scope : Scope} {cl : List (Str × Addr)} {pos : Pos} {s₂ : Shared} {I ax : Addr} {items : List Value} (G : Value → List Value → Prop) {RR : Value → Addr → Result → Shared → Prop}
    (hh : A.handled = none) (hcell : ∀ z ∈ scope.names, z.2 ≠ .cell) (hkind : scope.kind = .function) (hx : scope.names.lookup x = some .local) (hy : scope.names.lookup y = some .local) (hyd : (y == ("__debug__" : Str)) = false)
    (hit : s₂.heap.IsListIter I ax 0) (hl : s₂.heap.IsList ax items.toArray) (hne : ax ≠ I) (hG : ∀ a ys, G a ys → ys.length ≤ 10) (hsz : items.length ≤ 100)
    (hs : ∀ C z, foldedSetIterable i1 (compEnvC scope cl C env) z = pure z)
    (hi1 : ∀ C v s₃ m₃, s₂.heap.objs.size ≤ C → v ∈ items → s₃.heap.Ns C m₃ → m₃ x = some v → (∀ b o, b ≠ I → s₂.heap.get? b = some o → s₃.heap.get? b = some o) →
      wpAny (model prog w) A (eval i1 (compEnvC scope cl C env)) (fun r s₄ => ∃ l ys, r = .ref l ∧ s₄.heap.IsList l ys.toArray ∧ G v ys ∧ Keeps s₃ s₄ ∧ s₃.heap.get? l = none) (fun _ _ => False) s₃)
    (hRR : ∀ D C h' tk m' (yss : List (List Value)), s₂.heap.get? D = none → s₂.heap.get? C = none → D ≠ C → h'.Ns C m' → h'.PlainList D yss.flatten.toArray → Paired G items yss →
      (∀ b o, b ≠ I → s₂.heap.get? b = some o → h'.get? b = some o) → RR (.ref D) C (.ok .next) { s₂ with heap := h', toks := tk }) :
    wpAny (model prog w) A (newList []) (fun acc s₃ => wpAny (model prog w) A (newFunctionEnv scope env.globals cl [] env.qual none .none (some env)) (fun cenv s₄ =>
      codeAny (model prog w) A (.compStart (twoC (.Name y pe) (.Name x px) i0 (.Name y py) i1 scope pos) 0 (.ref I) acc { cenv with scope := relabel scope env }) (RR acc cenv.locals) s₄) E s₃) E s₂ := by
  refine wpAny_newObj_type (wpAny_newFunctionEnv hcell (by intro y hy; simp at hy) (fun h₁ hns₁ hsb₁ => ?_) hkind)
  dsimp only at hns₁ hsb₁ ⊢
  generalize hH2 : s₂.heap.push { cls := .type "list", dict := none, data := .seq ([] : List Value).toArray } = H2 at hns₁ hsb₁ ⊢
  have hC : H2.objs.size = s₂.heap.objs.size + 1 := by rw [← hH2, Heap.size_push]
  have hDC : s₂.heap.objs.size ≠ H2.objs.size := by rw [hC]; exact Nat.ne_of_lt (Nat.lt_succ_self _)
  have hCle : s₂.heap.objs.size ≤ H2.objs.size := by rw [hC]; exact Nat.le_succ _
  have below : ∀ b, b < s₂.heap.objs.size → b ≠ H2.objs.size ∧ b ≠ s₂.heap.objs.size := fun b hb => ⟨by rw [hC]; exact Nat.ne_of_lt (Nat.lt_succ_of_lt hb), Nat.ne_of_lt hb⟩
  have old : ∀ b o, s₂.heap.get? b = some o → h₁.get? b = some o := fun b o e => hsb₁.extBut b o (below b (Heap.lt_size e)).1 (Heap.get?_push_of_some _ (hH2 ▸ Heap.get?_push_of_some _ e))
  have hacc : h₁.PlainList s₂.heap.objs.size #[] := ⟨_, hsb₁.extBut _ _ hDC (Heap.get?_push_of_some _ (hH2 ▸ Heap.get?_push_size _ rfl))⟩
  have fresh : ∀ a, s₂.heap.objs.size ≤ a → s₂.heap.get? a = none := fun a ha => by
    cases e : s₂.heap.get? a with
    | none => rfl
    | some o' => exact absurd (Heap.lt_size e) (Nat.not_lt.mpr ha)
  have hIlt : I < s₂.heap.objs.size := by obtain ⟨o, e, _⟩ := hit; exact Heap.lt_size e
  have hxlt : ax < s₂.heap.objs.size := by obtain ⟨o, e, _⟩ := hl; exact Heap.lt_size e
  generalize hD : s₂.heap.objs.size = D at *
  generalize hCc : H2.objs.size = C at *
  have hIC := (below I hIlt).1
  have hID := (below I hIlt).2
  have hxC := (below ax hxlt).1
  have hxD := (below ax hxlt).2
  have kx : (compEnvC scope cl C env).kindOf x = some .local := lookup_relabel_local hx
  have ky : (compEnvC scope cl C env).kindOf y = some .local := lookup_relabel_local hy
  have kp : ((compEnvC scope cl C env).scope.kind == .class || ((compEnvC scope cl C env).scope.kind == .module && (compEnvC scope cl C env).locals != (compEnvC scope cl C env).globals)) = false := by simp [compEnvC, relabel, hkind]
  have kk : (compEnvC scope cl C env).scope.kind = .function := by simp [compEnvC, relabel, hkind]
  have loop : ∀ s₃ : Shared, s₃ = { s₂ with heap := h₁, toks := s₂.toks + ([] : List (Str × Value)).length } →
      codeAny (model prog w) A (.compLoop (twoC (.Name y pe) (.Name x px) i0 (.Name y py) i1 scope pos) 0 (.ref I) (.ref D) (compEnvC scope cl C env)) (RR (.ref D) C) s₃ := by
    rintro s₃ rfl
    refine loop0 (fun n s' => ∃ h' tk m' i yss, s' = { s₂ with heap := h', toks := tk } ∧ h'.IsListIter I ax i ∧ h'.IsList ax items.toArray ∧ h'.Ns C m' ∧ h'.PlainList D yss.flatten.toArray ∧ Paired G (items.take i) yss ∧ i ≤ items.length ∧ n = items.length + 1 - i ∧
      ∀ b o, b ≠ I → s₂.heap.get? b = some o → h'.get? b = some o) (hs C) ?_ (items.length + 1) ⟨h₁, _, _, 0, [], rfl, ?_, ?_, hns₁, hacc, by simpa using Paired.nil, Nat.zero_le _, rfl, fun b o _ e => old b o e⟩ (by intro v; rfl)
    · rintro n s' ⟨h', tk, m', i, yss, rfl, hit', hl', hn', hp', hP, hi, rfl, hk⟩
      cases hv : items[i]? with
      | none =>
        have hie : i = items.length := Nat.le_antisymm hi (by simpa using hv)
        refine wpAny_pyNext_list_end hh hit' hl' (by simpa using hv) fun h₂ he₂ => ?_
        refine hRR D C h₂ tk m' yss (fresh _ (Nat.le_refl _)) (fresh _ hCle) hDC (hn'.extBut he₂ (Ne.symm hIC)) (hp'.extBut he₂ (Ne.symm hID)) ?_ fun b o hb e => he₂ b o hb (hk b o hb e)
        rw [hie, List.take_length] at hP
        exact hP
      | some v =>
        have hlt : i < items.length := (List.getElem?_eq_some_iff.mp hv).1
        refine wpAny_pyNext_list_item hit' hl' (by simpa using hv) fun h₂ hit₂ hs₂ => ?_
        refine wpAny_assign_Name (wpAny_storeName_local kx (hn'.sameBut hs₂ (Ne.symm hIC)) (fun h₃ hn₃ hs₃ => ?_) kp)
        have k₃ : ∀ b o, b ≠ I → b ≠ C → h'.get? b = some o → h₃.get? b = some o := fun b o hbI hbC e => hs₃.extBut b o hbC (hs₂.extBut b o hbI e)
        have hit₃ : h₃.IsListIter I ax (i + 1) := hit₂.extBut hs₃.extBut hIC
        have hl₃ : h₃.IsList ax items.toArray := (hl'.extBut hs₂.extBut hne).extBut hs₃.extBut hxC
        have hp₃ := (hp'.extBut hs₂.extBut (Ne.symm hID)).extBut hs₃.extBut hDC
        refine wpAny_mono (hi1 C v _ _ hCle (List.mem_of_getElem? hv) hn₃ (by simp) fun b o hb e => k₃ b o hb (below b (by have := Heap.lt_size e; rwa [hD] at this)).1 (hk b o hb e)) (fun r s₄ hr => ?_) fun _ _ f => f
        obtain ⟨l, ys, rfl, hly, hgy, ⟨h₄, tk₄, rfl, k₄⟩, hln⟩ := hr
        dsimp only at hln k₄ hly ⊢
        have hlC : l ≠ C := fun e => by obtain ⟨_, _, _, q, _⟩ := hn₃; rw [e] at hln; exact absurd (hln.symm.trans q) (by simp)
        have hlD : l ≠ D := fun e => by obtain ⟨_, q⟩ := hp₃; rw [e, q] at hln; cases hln
        have hlI : l ≠ I := fun e => by obtain ⟨_, q, _⟩ := hit₃; rw [e, q] at hln; cases hln
        have hn₄ := hn₃.at' fun o e => k₄ _ o e
        have hp₄ := hp₃.at fun o e => k₄ _ o e
        have hit₄ := hit₃.at fun o e => k₄ _ o e
        have hl₄ := hl₃.at fun o e => k₄ _ o e
        refine wpAny_pyIter_list (s := { s₂ with heap := h₄, toks := tk₄ }) hly ?_
        dsimp only
        have up : ∀ b o, h₄.get? b = some o → (h₄.push { cls := .type "list_iterator", data := .fields #[.ref l, .int 0 0] }).get? b = some o := fun b o e => Heap.get?_push_of_some _ e
        have hJ : (h₄.push { cls := .type "list_iterator", data := .fields #[.ref l, .int 0 0] }).IsListIter h₄.objs.size l 0 := ⟨_, Heap.get?_push_size _ rfl, rfl, rfl⟩
        have off : ∀ b o, h₄.get? b = some o → b ≠ h₄.objs.size := fun b o e => Nat.ne_of_lt (Heap.lt_size e)
        have hJC : C ≠ h₄.objs.size := by obtain ⟨_, _, _, q, _⟩ := hn₄; exact off _ _ q
        have hJD : D ≠ h₄.objs.size := by obtain ⟨_, q⟩ := hp₄; exact off _ _ q
        have hJI : I ≠ h₄.objs.size := by obtain ⟨_, q, _⟩ := hit₄; exact off _ _ q
        have hJx : ax ≠ h₄.objs.size := by obtain ⟨_, q, _⟩ := hl₄; exact off _ _ q
        have hJl : l ≠ h₄.objs.size := by obtain ⟨_, q, _⟩ := hly; exact off _ _ q
        have hkeep : ∀ b o, b ≠ I → s₂.heap.get? b = some o → h₄.get? b = some o := fun b o hb e => k₄ b o (k₃ b o hb (below b (by have := Heap.lt_size e; rwa [hD] at this)).1 (hk b o hb e))
        have hb2 : ∀ b o, s₂.heap.get? b = some o → b ≠ C ∧ b ≠ D := fun b o e => below b (by have := Heap.lt_size e; rwa [hD] at this)
        have hlive : ∀ b o, b ≠ I → s₂.heap.get? b = some o → b ≠ h₄.objs.size := fun b o hb e => off b o (hkeep b o hb e)
        generalize hH4 : h₄.push { cls := .type "list_iterator", data := .fields #[.ref l, .int 0 0] } = g at up hJ ⊢
        generalize h₄.objs.size = J at *
        have hly' := hly.at fun o e => up _ o e
        have hn₅ := hn₄.at' fun o e => up _ o e
        have hp₅ := hp₄.at fun o e => up _ o e
        have hit₅ := hit₄.at fun o e => up _ o e
        have hl₅ := hl₄.at fun o e => up _ o e
        have hk₅ : ∀ b o, b ≠ I → s₂.heap.get? b = some o → g.get? b = some o := fun b o hb e => up b o (hkeep b o hb e)
        have inner : ∀ s₅ : Shared, s₅ = { s₂ with heap := g, toks := tk₄ } → codeAny (model prog w) A (.compLoop (twoC (.Name y pe) (.Name x px) i0 (.Name y py) i1 scope pos) 1 (.ref J) (.ref D) (compEnvC scope cl C env))
            (fun r s₅ => match r with | .ok _ => ∃ m, m < items.length + 1 - i ∧ ∃ h' tk m' i yss, s₅ = { s₂ with heap := h', toks := tk } ∧ h'.IsListIter I ax i ∧ h'.IsList ax items.toArray ∧ h'.Ns C m' ∧ h'.PlainList D yss.flatten.toArray ∧ Paired G (items.take i) yss ∧ i ≤ items.length ∧ m = items.length + 1 - i ∧
              ∀ b o, b ≠ I → s₂.heap.get? b = some o → h'.get? b = some o | .error _ => False) s₅ := by
          rintro s₅ rfl
          refine loop1 (fun n s' => ∃ h' tk m' j, s' = { s₂ with heap := h', toks := tk } ∧ h'.IsListIter J l j ∧ h'.IsList l ys.toArray ∧ h'.Ns C m' ∧ h'.PlainList D (yss.flatten ++ ys.take j).toArray ∧ j ≤ ys.length ∧ n = ys.length + 1 - j ∧
            h'.IsListIter I ax (i + 1) ∧ h'.IsList ax items.toArray ∧ ∀ b o, b ≠ I → s₂.heap.get? b = some o → h'.get? b = some o) ?_ (ys.length + 1) ⟨g, tk₄, _, 0, rfl, hJ, hly', hn₅, by simpa using hp₅, Nat.zero_le _, rfl, hit₅, hl₅, hk₅⟩ (by intro v; rfl)
          rintro n s' ⟨h₆, tk₆, m₆, j, rfl, j1, j2, j3, j4, j5, rfl, j6, j7, j8⟩
          cases hu : ys[j]? with
          | none =>
            have hje : j = ys.length := Nat.le_antisymm j5 (by simpa using hu)
            refine wpAny_pyNext_list_end hh j1 j2 (by simpa using hu) fun h₇ he₇ => ?_
            refine ⟨items.length + 1 - (i + 1), by omega, h₇, tk₆, m₆, i + 1, yss ++ [ys], rfl, j6.extBut he₇ hJI, j7.extBut he₇ hJx, j3.extBut he₇ hJC, ?_, ?_, hlt, rfl, fun b o hb e => he₇ b o (hlive b o hb e) (j8 b o hb e)⟩
            · rw [hje, List.take_length] at j4
              have := j4.extBut he₇ hJD
              simpa using this
            · rw [List.take_add_one, hv]
              exact Paired.snoc hP hgy
          | some u =>
            have hjt : j < ys.length := (List.getElem?_eq_some_iff.mp hu).1
            refine wpAny_pyNext_list_item j1 j2 (by simpa using hu) fun h₇ hit₇ hs₇ => ?_
            refine wpAny_assign_Name (wpAny_storeName_local ky (j3.sameBut hs₇ hJC) (fun h₈ hn₈ hs₈ => ?_) kp)
            refine wpAny_Name (wpAny_loadName_local kk ky hn₈ (v := u) (if_pos rfl) ?_) hyd
            have hlen := Paired.flat_len hG hP
            have hyl := hG _ _ hgy
            have htl : (items.take i).length ≤ 100 := by rw [List.length_take]; omega
            refine wpAny_list_append_plain ((j4.extBut hs₇.extBut hJD).extBut hs₈.extBut hDC) (fun h₉ hp₉ hs₉ => ?_) (by rw [sizeLine_eq]; simp only [List.size_toArray, List.length_append, List.length_take] at *; omega)
            refine ⟨ys.length + 1 - (j + 1), by omega, h₉, _, _, j + 1, rfl, ((hit₇.extBut hs₈.extBut (Ne.symm hJC)).extBut hs₉.extBut (Ne.symm hJD)), ((j2.extBut hs₇.extBut hJl).extBut hs₈.extBut hlC).extBut hs₉.extBut hlD, hn₈.sameBut hs₉ (Ne.symm hDC), ?_, hjt, rfl,
              ((j6.extBut hs₇.extBut hJI).extBut hs₈.extBut hIC).extBut hs₉.extBut hID, ((j7.extBut hs₇.extBut hJx).extBut hs₈.extBut hxC).extBut hs₉.extBut hxD, fun b o hb e => hs₉.extBut b o (hb2 b o e).2 (hs₈.extBut b o (hb2 b o e).1 (hs₇.extBut b o (hlive b o hb e) (j8 b o hb e)))⟩
            have e : (yss.flatten ++ ys.take (j + 1)).toArray = (yss.flatten ++ ys.take j).toArray.push u := by
              rw [List.take_add_one, hu]
              simp
            rw [e]
            exact hp₉
        exact start1 (inner _ rfl) (wpAny_pyIter_listiter (s := { s₂ with heap := g, toks := tk₄ }) hJ (inner _ rfl))
    · exact hit.at fun o e => old _ o e
    · exact hl.at fun o e => old _ o e
  exact codeAny_compStart_list (loop _ rfl) (wpAny_pyIter_listiter (hit.at fun o e => old _ o e) (loop _ rfl))
theorem Assign_two {s : Shared} {i0 i1 : Expr} {x y z : Str} {px py pe pz : Pos} {scope : Scope} {cl : List (Str × Addr)} {pos spos : Pos} {Q : Flow → Shared → Prop} {h₀ : Heap} {m : Str → Option Value} {news : List (Addr × Obj)} {ax : Addr} {items : List Value} (G : Value → List Value → Prop)
    (hh : A.handled = none) (F : Fr h₀ env.locals s.heap m) (N : News h₀ env.locals s.heap news) (hl : s.heap.IsList ax items.toArray) (hi0 : ∀ Q' : Value → Shared → Prop, Q' (.ref ax) s → wpAny (model prog w) A (eval i0 env) Q' E s)
    (hG : ∀ a ys, G a ys → ys.length ≤ 10) (hsz : items.length ≤ 100)
    (hi1 : ∀ C v s₃ m₃, s.heap.objs.size ≤ C → v ∈ items → s₃.heap.Ns C m₃ → m₃ x = some v → (∀ b o, s.heap.get? b = some o → s₃.heap.get? b = some o) →
      wpAny (model prog w) A (eval i1 (compEnvC scope cl C env)) (fun r s₄ => ∃ l ys, r = .ref l ∧ s₄.heap.IsList l ys.toArray ∧ G v ys ∧ Keeps s₃ s₄ ∧ s₃.heap.get? l = none) (fun _ _ => False) s₃)
    (hQ : ∀ D h' tk c (yss : List (List Value)), Fr h₀ env.locals h' (fun q => if q = z then some (.ref D) else m q) → News h₀ env.locals h' ((D, listOf yss.flatten.toArray c) :: news) → Paired G items yss → Q .next { s with heap := h', toks := tk })
    (hsw : swapsWith (twoC (.Name y pe) (.Name x px) i0 (.Name y py) i1 scope pos) (some (.Name z pz)) spos.line env = pure true) (hclos : closureFor scope env = pure cl)
    (hcell : ∀ z ∈ scope.names, z.2 ≠ .cell) (hkind : scope.kind = .function) (hnames : ∀ z ∈ scope.names, z.2 = .local → scope.names.lookup z.1 = some .local) (hx : scope.names.lookup x = some .local) (hy : scope.names.lookup y = some .local) (hyd : (y == ("__debug__" : Str)) = false)
    (hz : env.kindOf z = some .local) (hp : (env.scope.kind == .class || (env.scope.kind == .module && env.locals != env.globals)) = false)
    (hs0 : ∀ x, foldedSetIterable i0 env x = pure x) (hs : ∀ C z, foldedSetIterable i1 (compEnvC scope cl C env) z = pure z) :
    wpAny (model prog w) A (exec (.Assign [.Name z pz] (twoC (.Name y pe) (.Name x px) i0 (.Name y py) i1 scope pos) spos) env) Q E s := by
  rw [exec_Assign_Name_used _ _ _ _ hsw]
  refine wpAny_bind (wpAny_standAt (wpAny_bind ?_))
  show wpAny _ A (do let _ ← comprehension (twoC (.Name y pe) (.Name x px) i0 (.Name y py) i1 scope pos) scope env _ (newList []) false (eval i0 env) (some (assign (.Name z pz) env))) _ _ s
  refine wpAny_bind (wpAny_mono (wpAny_comprehension_free (use := some (assign (.Name z pz) env)) (Q := fun _ s' => Q .next s') rfl hs0 hclos hkind hnames
    (hi0 _ (wpAny_pyIter_list hl ?_))) (fun _ s' hq => wpAny_pure (wpAny_pure hq)) fun _ _ e => e)
  have up : ∀ b o, s.heap.get? b = some o → (s.heap.push { cls := .type "list_iterator", data := .fields #[.ref ax, .int 0 0] }).get? b = some o := fun b o e => Heap.get?_push_of_some _ e
  have off : ∀ b o, s.heap.get? b = some o → b ≠ s.heap.objs.size := fun b o e => Nat.ne_of_lt (Heap.lt_size e)
  have hne : ax ≠ s.heap.objs.size := by obtain ⟨_, q, _⟩ := hl; exact off _ _ q
  have hLne : env.locals ≠ s.heap.objs.size := Nat.ne_of_lt F.ns.lt
  refine block_two (s₂ := { s with heap := s.heap.push { cls := .type "list_iterator", data := .fields #[.ref ax, .int 0 0] } }) (RR := fun acc C => compPost (model prog w) A E (some (assign (.Name z pz) env)) (fun _ s' => Q .next s') acc C) G hh hcell hkind hx hy hyd
    ⟨_, Heap.get?_push_size _ rfl, rfl, rfl⟩ (hl.at fun o e => up _ o e) hne hG hsz hs ?_ ?_
  · intro C v s₃ m₃ hC hv hn hm hk
    refine hi1 C v s₃ m₃ (Nat.le_trans (by show _ ≤ (s.heap.push _).objs.size; rw [Heap.size_push]; exact Nat.le_succ _) hC) hv hn hm fun b o e => hk b o (off b o e) (up b o e)
  · intro D C h' tk m' yss hD hC hDC hnC hpD hP hk
    have hkeep : ∀ b o, s.heap.get? b = some o → h'.get? b = some o := fun b o e => hk b o (off b o e) (up b o e)
    have hD0 : s.heap.get? D = none := by
      cases e : s.heap.get? D with
      | none => rfl
      | some o => have := up D o e; rw [hD] at this; cases this
    have hC0 : s.heap.get? C = none := by
      cases e : s.heap.get? C with
      | none => rfl
      | some o => have := up C o e; rw [hC] at this; cases this
    have hLC : env.locals ≠ C := by rintro rfl; obtain ⟨o, _, _, ho, _⟩ := F.ns; rw [hC0] at ho; cases ho
    have hLD : env.locals ≠ D := by rintro rfl; obtain ⟨o, _, _, ho, _⟩ := F.ns; rw [hD0] at ho; cases ho
    show wpAny _ A (assign (.Name z pz) env (.ref D)) _ _ _
    refine wpAny_assign_Name (wpAny_storeName_local hz (F.ns.at' fun o e => hkeep _ o e) (fun h₂ hn₂ hs₂ => ?_) hp)
    refine ⟨m', hnC.sameBut hs₂ (Ne.symm hLC), fun h₃ hs₃ => ?_⟩
    obtain ⟨c, hc⟩ := (hpD.extBut hs₂.extBut (Ne.symm hLD)).extBut hs₃.extBut hDC
    refine hQ D h₃ _ c yss ⟨hn₂.sameBut hs₃ hLC, fun b o e => ?_, F.above⟩ (fun p hp => ?_) hP
    · have e' := F.keep b o e
      have hbL : b ≠ env.locals := Nat.ne_of_lt (Nat.lt_of_lt_of_le (Heap.lt_size e) F.above)
      exact hs₃.extBut b o (fun q => by rw [q, hC0] at e'; cases e') (hs₂.extBut b o hbL (hkeep b o e'))
    · rcases List.mem_cons.mp hp with rfl | hp
      · refine ⟨hc, Ne.symm hLD, ?_⟩
        cases e : h₀.get? D with
        | none => rfl
        | some o => rw [F.keep _ _ e] at hD0; cases hD0
      · have e' := (N p hp).1
        exact ⟨hs₃.extBut _ _ (fun q => by rw [q, hC0] at e'; cases e') (hs₂.extBut _ _ (N p hp).2.1 (hkeep _ _ e')), (N p hp).2⟩
end
end Mine
end C1Part

/-! C3 -/
section C3Part
open PySem PySem.W PyProof.Rows
set_option maxRecDepth 100000
namespace Mine
section
variable {prog : Program} {w : World} {A : Around} {E : Value → Shared → Prop} {env : Env} {s : Shared} {elt iter : Expr} {x y : Str} {px py : Pos} {scope : Scope} {cl : List (Str × Addr)} {pos spos : Pos} {h₀ : Heap} {m : Str → Option Value} {news : List (Addr × Obj)} {ax : Addr} {items : List Value}
theorem filter_yes {α : Type} (l : List α) : l.filter (fun _ => true) = l := by simp
theorem places_eq {items vs : List Value} (hlen : vs.length = items.toArray.size) (hP : ∀ (j : Nat) (v : Value), vs[j]? = some v → items.toArray[j]? = some v) : vs = items := by
  apply List.ext_getElem?
  intro j
  cases h : vs[j]? with
  | none =>
    rw [List.getElem?_eq_none_iff] at h
    have : items.length ≤ j := by simp at hlen; omega
    rw [List.getElem?_eq_none this]
  | some v => simpa using (hP j v h).symm
theorem quiet_of (G : Value → Value → Prop) (hk : ∀ b o, s.heap.get? b = some o → b ≠ s.heap.objs.size)
    (helt : ∀ C v s₃ m₃, s.heap.objs.size ≤ C → v ∈ items → s₃.heap.Ns C m₃ → m₃ x = some v → (∀ b o, s.heap.get? b = some o → s₃.heap.get? b = some o) →
      wpAny (model prog w) A (eval elt (compEnvC scope cl C env)) (fun r s₄ => G v r ∧ Keeps s₃ s₄) (fun _ _ => False) s₃) :
    QuietOnC prog w A env scope cl x [] elt [s.heap.objs.size] (fun i v => items.toArray[i]? = some v) (fun _ => true) G { s with heap := s.heap.push { cls := .type "list_iterator", data := .fields #[.ref ax, .int 0 0] } } where
  tests := fun C i v s₃ m₃ E' _ _ _ _ _ _ => wpAny_tests_nil ⟨rfl, s₃.heap, s₃.toks, rfl, fun _ _ e => e⟩
  elt := fun C i v s₃ m₃ E' hC hv _ hn hm hkk _ => wpAny_mono (helt C v s₃ m₃ (Nat.le_trans (by show _ ≤ (s.heap.push _).objs.size; rw [Heap.size_push]; exact Nat.le_succ _) hC) (List.mem_of_getElem? (by simpa using hv)) hn hm
    fun b o e => hkk b o (by simpa using hk b o e) (Heap.get?_push_of_some _ e)) (fun _ _ q => q) fun _ _ f => f.elim
theorem Comp_one {Q : Value → Shared → Prop} (G : Value → Value → Prop) (hh : A.handled = none) (F : Fr h₀ env.locals s.heap m) (N : News h₀ env.locals s.heap news) (hl : s.heap.IsList ax items.toArray) (hi0 : ∀ Q' : Value → Shared → Prop, Q' (.ref ax) s → wpAny (model prog w) A (eval iter env) Q' E s)
    (hsz : items.length ≤ 1000)
    (helt : ∀ C v s₃ m₃, s.heap.objs.size ≤ C → v ∈ items → s₃.heap.Ns C m₃ → m₃ x = some v → (∀ b o, s.heap.get? b = some o → s₃.heap.get? b = some o) →
      wpAny (model prog w) A (eval elt (compEnvC scope cl C env)) (fun r s₄ => G v r ∧ Keeps s₃ s₄) (fun _ _ => False) s₃)
    (hQ : ∀ D h' tk c (ys : List Value), Fr h₀ env.locals h' m → News h₀ env.locals h' ((D, listOf ys.toArray c) :: news) → Paired G items ys → Q (.ref D) { s with heap := h', toks := tk })
    (hclos : closureFor scope env = pure cl)
    (hcell : ∀ z ∈ scope.names, z.2 ≠ .cell) (hkind : scope.kind = .function) (hnames : ∀ z ∈ scope.names, z.2 = .local → scope.names.lookup z.1 = some .local) (hx : scope.names.lookup x = some .local)
    (hs0 : ∀ x, foldedSetIterable iter env x = pure x) :
    wpAny (model prog w) A (eval (.ListComp elt [⟨.Name x px, iter, [], 0⟩] scope pos) env) Q E s := by
  have off : ∀ b o, s.heap.get? b = some o → b ≠ s.heap.objs.size := fun b o e => Nat.ne_of_lt (Heap.lt_size e)
  have up : ∀ b o, s.heap.get? b = some o → (s.heap.push { cls := .type "list_iterator", data := .fields #[.ref ax, .int 0 0] }).get? b = some o := fun b o e => Heap.get?_push_of_some _ e
  have hne : ax ≠ s.heap.objs.size := by obtain ⟨_, q, _⟩ := hl; exact off _ _ q
  refine wpAny_ListComp_free (fun _ => true) G hclos hcell hkind hnames hx (hi0 _ (wpAny_pyIter_list hl ?_)) hs0
  refine ⟨_, _, _, _, _, _, rfl, Walks.list hh s.heap.objs.size ax hne items.toArray, by rw [sizeLine_eq]; simp; omega, ⟨⟨_, Heap.get?_push_size _ rfl, rfl, rfl⟩, hl.at fun o e => up _ o e⟩, ?_, quiet_of G off helt, ?_⟩
  · intro b hb
    show b < (s.heap.push _).objs.size
    rw [Heap.size_push]
    rcases List.mem_cons.mp hb with rfl | hb
    · exact Nat.lt_succ_self _
    · rw [List.mem_singleton.mp hb]
      obtain ⟨_, q, _⟩ := hl
      exact Nat.lt_succ_of_lt (Heap.lt_size q)
  · intro D h' tk ys vs hD hlD hpD hlen hP hG hk
    have hvs := places_eq hlen hP
    subst hvs
    rw [filter_yes] at hG
    have hkeep : ∀ b o, s.heap.get? b = some o → h'.get? b = some o := fun b o e => hk b o (by simpa using off b o e) (up b o e)
    have hD0 : s.heap.get? D = none := by
      cases e : s.heap.get? D with
      | none => rfl
      | some o => have := up D o e; rw [hD] at this; cases this
    obtain ⟨c, hc⟩ := hpD
    have hc' : h'.get? D = some (listOf ys.toList.toArray c) := by simpa using hc
    refine hQ D h' tk c ys.toList (Fr.keeps F hkeep) (fun p hp => ?_) hG
    rcases List.mem_cons.mp hp with rfl | hp
    · refine ⟨hc', ?_, ?_⟩
      · rintro rfl; obtain ⟨o, _, _, ho, _⟩ := F.ns; rw [hD0] at ho; cases ho
      · cases e : h₀.get? D with
        | none => rfl
        | some o => rw [F.keep _ _ e] at hD0; cases hD0
    · exact ⟨hkeep _ _ (N p hp).1, (N p hp).2⟩
theorem Assign_one {Q : Flow → Shared → Prop} (G : Value → Value → Prop) (hh : A.handled = none) (F : Fr h₀ env.locals s.heap m) (N : News h₀ env.locals s.heap news) (hl : s.heap.IsList ax items.toArray) (hi0 : ∀ Q' : Value → Shared → Prop, Q' (.ref ax) s → wpAny (model prog w) A (eval iter env) Q' E s)
    (hsz : items.length ≤ 1000)
    (helt : ∀ C v s₃ m₃, s.heap.objs.size ≤ C → v ∈ items → s₃.heap.Ns C m₃ → m₃ x = some v → (∀ b o, s.heap.get? b = some o → s₃.heap.get? b = some o) →
      wpAny (model prog w) A (eval elt (compEnvC scope cl C env)) (fun r s₄ => G v r ∧ Keeps s₃ s₄) (fun _ _ => False) s₃)
    (hQ : ∀ D h' tk c (ys : List Value), Fr h₀ env.locals h' (fun q => if q = y then some (.ref D) else m q) → News h₀ env.locals h' ((D, listOf ys.toArray c) :: news) → Paired G items ys → Q .next { s with heap := h', toks := tk })
    (hsw : swapsWith (.ListComp elt [⟨.Name x px, iter, [], 0⟩] scope pos) (some (.Name y py)) spos.line env = pure true) (hclos : closureFor scope env = pure cl)
    (hcell : ∀ z ∈ scope.names, z.2 ≠ .cell) (hkind : scope.kind = .function) (hnames : ∀ z ∈ scope.names, z.2 = .local → scope.names.lookup z.1 = some .local) (hx : scope.names.lookup x = some .local)
    (hy : env.kindOf y = some .local) (hp : (env.scope.kind == .class || (env.scope.kind == .module && env.locals != env.globals)) = false)
    (hs0 : ∀ x, foldedSetIterable iter env x = pure x) :
    wpAny (model prog w) A (exec (.Assign [.Name y py] (.ListComp elt [⟨.Name x px, iter, [], 0⟩] scope pos) spos) env) Q E s := by
  have off : ∀ b o, s.heap.get? b = some o → b ≠ s.heap.objs.size := fun b o e => Nat.ne_of_lt (Heap.lt_size e)
  have up : ∀ b o, s.heap.get? b = some o → (s.heap.push { cls := .type "list_iterator", data := .fields #[.ref ax, .int 0 0] }).get? b = some o := fun b o e => Heap.get?_push_of_some _ e
  have hne : ax ≠ s.heap.objs.size := by obtain ⟨_, q, _⟩ := hl; exact off _ _ q
  have hLne : env.locals ≠ s.heap.objs.size := Nat.ne_of_lt F.ns.lt
  refine wpAny_Assign_ListComp_free (fun _ => true) G hsw hclos hcell hkind hnames hx hy hp (hi0 _ (wpAny_pyIter_list hl ?_)) hs0
  refine ⟨_, _, _, _, _, _, m, rfl, Walks.list hh s.heap.objs.size ax hne items.toArray, by rw [sizeLine_eq]; simp; omega, ⟨⟨_, Heap.get?_push_size _ rfl, rfl, rfl⟩, hl.at fun o e => up _ o e⟩, ?_, by simpa using hLne, F.ns.at' fun o e => up _ o e, quiet_of G off helt, ?_⟩
  · intro b hb
    show b < (s.heap.push _).objs.size
    rw [Heap.size_push]
    rcases List.mem_cons.mp hb with rfl | hb
    · exact Nat.lt_succ_self _
    · rw [List.mem_singleton.mp hb]
      obtain ⟨_, q, _⟩ := hl
      exact Nat.lt_succ_of_lt (Heap.lt_size q)
  · intro D h' tk ys vs hD hlD hpD hlen hP hG hn hk
    have hvs := places_eq hlen hP
    subst hvs
    rw [filter_yes] at hG
    have hkeep : ∀ b o, b ≠ env.locals → s.heap.get? b = some o → h'.get? b = some o := fun b o hb e => hk b o hb (by simpa using off b o e) (up b o e)
    have hD0 : s.heap.get? D = none := by
      cases e : s.heap.get? D with
      | none => rfl
      | some o => have := up D o e; rw [hD] at this; cases this
    obtain ⟨c, hc⟩ := hpD
    have hc' : h'.get? D = some (listOf ys.toList.toArray c) := by simpa using hc
    refine hQ D h' tk c ys.toList ⟨hn, fun b o e => hkeep b o (Nat.ne_of_lt (Nat.lt_of_lt_of_le (Heap.lt_size e) F.above)) (F.keep b o e), F.above⟩ (fun p hp => ?_) hG
    rcases List.mem_cons.mp hp with rfl | hp
    · refine ⟨hc', ?_, ?_⟩
      · rintro rfl; obtain ⟨o, _, _, ho, _⟩ := F.ns; rw [hD0] at ho; cases ho
      · cases e : h₀.get? D with
        | none => rfl
        | some o => rw [F.keep _ _ e] at hD0; cases hD0
    · exact ⟨hkeep _ _ (N p hp).2.1 (N p hp).1, (N p hp).2⟩
end
end Mine
end C3Part

/-! C2 -/
section C2Part
open PySem PySem.W PyProof.Rows
namespace Mine
theorem fill6 : PySem.Challenge.rw_pg0076_01.prog = PySem.Challenge.rw_pg0076_01.prog ∧ hd.heap_39 = hd.heap_39 := by
  k_fill
  exact ⟨rfl, rfl⟩
local macro_rules | `(tactic| walk_at "Back") => `(tactic| fail "at the end")
local macro_rules | `(tactic| walk_at "mine enter") => `(tactic| (
  (case k6 => k_is); (case k7 => k_is); (case k9 => exact BindsTo.of_eq rfl); (case c5 => decide); (case kB => exact locs rfl); (case c2 => exact rfl); (case c3 => exact rfl); (case c4 => exact rfl); k_whole))
local macro_rules | `(tactic| walk_at "mine step") => `(tactic| first | (k_unfold; (try dsimp only)) | walk1 | (dsimp only; walk1) | (leave1; walk_say "STEP leave1"; try dsimp only) | fail "no step")
local macro_rules | `(tactic| walk_at "mine steps") => `(tactic| repeat' ((fail_if_success (with_reducible show wpAny _ _ (exec (Stmt.While _ _ _ _) _) _ _ _)); (fail_if_success (with_reducible show wpAny _ _ (exec (Stmt.For _ _ _ _ _) _) _ _ _)); (fail_if_success (with_reducible show WhileStep _ _ _ _ _ _ _)); walk_at "mine step"))


local macro_rules | `(tactic| walk_at "mine steps c") => `(tactic| repeat' ((fail_if_success (with_reducible show wpAny _ _ (exec (Stmt.Assign _ (Expr.ListComp _ _ _ _) _) _) _ _ _)); (fail_if_success (with_reducible show wpAny _ _ (eval (Expr.ListComp _ _ _ _) _) _ _ _)); (fail_if_success (with_reducible show wpAny _ _ (call (Value.ref _) _) _ _ _)); walk_at "mine step"))
/-- the stray sign of an octet -/
def stray (o : Int) : Str := if o < 128 then ⟨#[o.toNat]⟩ else ⟨#[(56320 + o).toNat]⟩
theorem ints_mem : ∀ {vs : List Value} {ns : List Int}, IntsAre vs ns → ∀ v ∈ vs, ∃ p t, v = .int p t ∧ p ∈ ns
  | _, _, .cons n t h, v, hv => by
    rcases List.mem_cons.mp hv with rfl | hv
    · exact ⟨n, t, rfl, List.mem_cons_self⟩
    · obtain ⟨p, t, e, hp⟩ := ints_mem h v hv
      exact ⟨p, t, e, List.mem_cons_of_mem _ hp⟩
theorem ints_app : ∀ {vs us : List Value} {ns ms : List Int}, IntsAre vs ns → IntsAre us ms → IntsAre (vs ++ us) (ns ++ ms)
  | _, _, _, _, .nil, h => h
  | _, _, _, _, .cons n t h, h' => .cons n t (ints_app h h')
theorem flat_ints : ∀ {vs : List Value} {ps : List Int} {yss : List (List Value)}, IntsAre vs ps → Paired (fun v ys => ∃ p t, v = Value.int p t ∧ IntsAre ys (octs p)) vs yss → IntsAre yss.flatten (ps.flatMap octs)
  | _, _, _, .nil, .nil => .nil
  | _, _, _, .cons n t h, .cons ⟨p, t', e, hy⟩ hr => by
    cases e
    simp only [List.flatten_cons, List.flatMap_cons]
    exact ints_app hy (flat_ints h hr)
theorem fdv (p : Int) (k : Int) (hk : 0 ≤ k) : p.fdiv k = p / k := Int.fdiv_eq_ediv_of_nonneg p hk
theorem fmd (p : Int) (k : Int) (hk : 0 ≤ k) : p.fmod k = p % k := Int.fmod_eq_emod_of_nonneg p hk
theorem octs_bd {p o : Int} (h0 : 0 ≤ p) (h1 : p < 2 ^ 20) (h : o ∈ octs p) : 0 ≤ o ∧ o < 256 := by
  unfold octs at h
  simp only [fdv _ 64 (by decide), fdv _ 4096 (by decide), fdv _ 262144 (by decide), fmd _ 64 (by decide)] at h
  (repeat' split at h) <;> simp only [List.mem_cons, List.not_mem_nil, or_false] at h <;> omega
theorem octs_len (p : Int) : (octs p).length ≤ 4 := by
  unfold octs
  (repeat' split) <;> simp
theorem flat_octs_len : ∀ ps : List Int, (ps.flatMap octs).length ≤ 4 * ps.length
  | [] => by simp
  | p :: ps => by
    have := octs_len p
    have := flat_octs_len ps
    simp only [List.flatMap_cons, List.length_append, List.length_cons]
    omega
theorem stray_strs : ∀ {zs ys : List Value} {ns : List Int}, IntsAre zs ns → Paired (fun v y => ∃ k t t', v = Value.int k t ∧ y = Value.str (stray k) t') zs ys → StrsAre ys (ns.map stray)
  | _, _, _, .nil, .nil => .nil
  | _, _, _, .cons n t h, .cons ⟨k, t₁, t₂, e, ey⟩ hr => by
    cases e
    subst ey
    exact .cons _ _ (stray_strs h hr)
set_option maxRecDepth 100000 in
set_option maxHeartbeats 4000000 in
theorem strays_call {w : World} {A : Around} {s : Shared} {Q E : Value → Shared → Prop} (C : Cx w A s 30 300) {l : Addr} {vs : List Value} {ps : List Int}
    (hl : s.heap.IsList l vs.toArray) (hi : IntsAre vs ps) (hn : ps.length ≤ 100) (hp : ∀ p ∈ ps, 0 ≤ p ∧ p < 2 ^ 20)
    (hQ : ∀ h' tk r (us : List Value) c, Keeps' s.heap h' → s.heap.get? r = none → h'.get? r = some (listOf us.toArray c) → StrsAre us ((ps.flatMap octs).map stray) → Q (.ref r) { s with heap := h', toks := tk }) :
    wpAny (model PR w) A (call (.ref 47) [.ref l]) Q E s := by
  refine' enterS [(Str.ofString "points", .ref l)] (d := 29) (u := 297) C ?k6 ?k7 ?k9 ?kB ?_ ?c2 ?c3 ?c4 ?c5
  walk_at "mine enter"
  intro dp un gd env outer base L' h' pp loose mean mg mb F' N' B' X' T' hdp hun
  (try dsimp only)
  (try k_fold)
  walk_at "mine steps c"
  rename Fr _ _ _ _ => F
  rename News _ _ _ _ => N
  refine Assign_two (cl := []) (items := vs) (fun v ys => ∃ p t, v = .int p t ∧ IntsAre ys (octs p)) rfl F N (hl.at fun o e => F.keep _ o e) ?_ ?_ ?_ ?_ ?_ ?_ ?_ ?_ ?_ ?_ ?_ ?_ ?_ ?_ ?_ ?_ ?_
  · intro Q' hq
    walk_at "mine step"
    exact hq
  · rintro v ys ⟨p, t, rfl, hy⟩
    rw [hy.length]
    unfold octs
    (repeat' split) <;> simp
  · rw [hi.length]; exact hn
  · intro C₃ v s₃ m₃ hC hv hns hm hk
    obtain ⟨p, t, rfl, hpp⟩ := ints_mem hi v hv
    have hCx : ∀ (env₁ : Env) (s' : Shared), env₁.frame = some L' → env₁.scope.kind = .function → Keeps' s₃.heap s'.heap → Cx w (Around.deeper ⟨none, dp, some (env :: outer), gd, un⟩ env₁) s' 10 100 := fun env₁ s' h1 h2 k' =>
      Cx.of B' (frExt F fun x o q => k' x o (hk x o q)) X' T' rfl h1 h2 (by show _ + 1 + 10 < recursionLimit; dsimp only; omega) (by show _ + 3 + 100 < cLine; dsimp only; omega) rfl
    have FC : Fr s.heap C₃ s₃.heap m₃ := ⟨hns, fun b o e => hk b o (F.keep b o e), Nat.le_trans (Nat.le_of_lt (Nat.lt_of_le_of_lt F.above F.ns.lt)) hC⟩
    clear F N
    walk_at "mine steps c"
    refine octets_call (hCx _ _ rfl rfl fun _ _ q => q) (hp p hpp).1 (by have := (hp p hpp).2; omega) ?_
    intro h₅ tk₅ l₅ vs₅ n₅ k₅ hn₅ hg₅ hi₅
    exact ⟨l₅, vs₅.toList, rfl, ⟨_, hg₅, rfl, n₅, by simp⟩, ⟨p, t, rfl, hi₅⟩, ⟨h₅, tk₅, rfl, k₅⟩, hn₅⟩
  · clear F N
    intro D h₁ tk₁ c yss F N hP
    replace F : Fr s.heap L' _ _ := F
    replace N : News s.heap L' _ _ := N
    have hoc := flat_ints hi hP
    have hlo : yss.flatten.length ≤ 1000 := by rw [hoc.length]; have := flat_octs_len ps; omega
    generalize yss.flatten = zs at *
    have hDl : h₁.IsList D zs.toArray := ⟨_, News.get N List.mem_cons_self, rfl, c, rfl⟩
    dsimp only
    walk_at "mine steps c"
    rename Fr _ _ _ _ => F
    rename News _ _ _ _ => N
    refine Comp_one (cl := []) (items := zs) (ax := D) (fun v y => ∃ k t t', v = .int k t ∧ y = .str (stray k) t') rfl F N ?_ ?_ ?_ ?_ ?_ ?_ ?_ ?_ ?_ ?_ ?_
    · exact hDl.at fun o e => by assumption
    · intro Q' hq
      walk_at "mine step"
      exact hq
    · exact hlo
    · intro C₃ v s₃ m₃ hC hv hns hm hk
      obtain ⟨k, t, rfl, hkk⟩ := ints_mem hoc v hv
      obtain ⟨p, hpp, hkp⟩ := List.mem_flatMap.mp hkk
      have hb := octs_bd (hp p hpp).1 (hp p hpp).2 hkp
      have FC : Fr s.heap C₃ s₃.heap m₃ := ⟨hns, fun b o e => hk b o (F.keep b o e), Nat.le_trans (Nat.le_of_lt (Nat.lt_of_le_of_lt F.above F.ns.lt)) hC⟩
      clear F N
      refine wpAny_mono (Q := fun r s₄ => Stop ((∃ t', r = .str (stray k) t') ∧ Keeps s₃ s₄)) ?_ (fun r s₄ q => ?_) (fun _ _ f => f)
      · walk_at "mine steps c"
        all_goals (
          refine ⟨?_, _, _, rfl, fun _ _ e => e⟩
          simp only [stray, *, if_true, if_false]
          exact ⟨_, rfl⟩)
      · obtain ⟨⟨t', e⟩, q2⟩ := q; exact ⟨⟨k, t, t', rfl, e⟩, q2⟩
    · clear F N
      intro D₂ h₂ tk₂ c₂ ys F N hP₂
      replace F : Fr s.heap L' _ _ := F
      replace N : News s.heap L' _ _ := N
      dsimp only
      walk_at "mine steps c"
      exact hQ _ _ _ _ _ (Fr.keep F) (News.fresh N List.mem_cons_self) (News.get N List.mem_cons_self) (stray_strs hoc hP₂)
    · with_unfolding_all rfl
    · decide
    · rfl
    · decide
    · decide
    · intro _; rfl
  · with_unfolding_all rfl
  · rfl
  · decide
  · rfl
  · decide
  · decide
  · decide
  · decide
  · rfl
  · rfl
  · intro _; rfl
  · intro _ _; rfl
end Mine
end C2Part

/-! C4 -/
section C4Part
open PySem PySem.W PyProof.Rows
namespace Mine
theorem enterC {w : World} {A : Around} {s : Shared} {d u : Nat} {Q E : Value → Shared → Prop} {name qual : Str} {params : Arguments} {body : List Stmt} {scope : Scope} {dV kV doc pm cdv ct oc : Value} {an od : Option Addr} {osl : Array (Option Value)} {f : Addr} {args : List Value} (binds : List (Str × Value))
    (C : Cx w A s (d + 1) (u + 3))
    (ho : (hd.heap_39 w.params).lookup f = some ⟨oc, od, .func (fnOf name qual params body scope dV kV doc pm an cdv ct), osl⟩) (hcd : codeIn (hd.heap_39 w.params) cdv qual = true)
    (hbind : BindsTo s (fnOf name qual params body scope dV kV doc pm an cdv ct) ⟨args, []⟩ binds) (hkind : (binds.all fun y => scope.names.lookup y.1 == some .local || scope.names.lookup y.1 == some .cell) = true)
    (hnd : ((cellsFrom 0 scope.names []).map (·.1)).Nodup)
    (h : ∀ dp un gd env outer base L' h₁ tk cells p loose mean mg mb, Fr s.heap L' h₁ (bindL (envOfC qual scope L' f cdv).kindOf binds fun _ => none) → News s.heap L' h₁ cells →
      CellsAre (bindC (envOfC qual scope L' f cdv).kindOf binds fun _ => none) (cellsFrom (L' + 1) scope.names []) cells → Below ⟨none, dp, some (env :: outer), gd, un⟩ base (env :: outer) s.heap →
      (hd.heap_39 w.params).In s.heap → Top p loose mean mg mb s.heap → dp + 1 + d < recursionLimit → un + 3 + u < cLine →
      wpAny (model PR w) (Around.deeper ⟨none, dp, some (env :: outer), gd, un⟩ (envOfC qual scope L' f cdv)) (execs body (envOfC qual scope L' f cdv))
        (fun fl s' => Back s Q (match fl with | .ret v => v | _ => .none) s') (fun _ _ => False)
        { s with heap := h₁, toks := tk })
    (hco : scope.isCoroutine = false) (hgen : scope.isGenerator = false) (hk : scope.kind = .function) : wpAny (model PR w) A (call (.ref f) args) Q E s := by
  obtain ⟨A₀, base, outer, h₀, L, m, env, p, loose, mean, mg, mb, B, F, X, T, hA, hf, hke, hdp, hun, hh⟩ := C.out
  obtain ⟨hdl, dp, fr, gd, un⟩ := A
  subst hA hh
  refine wpAny_call ?_
  obtain ⟨FG, BG, st, lv⟩ := groundX (R := fun _ _ => True) (A := ⟨none, dp, some (env :: outer), gd, un⟩) B F (News.nil (L := L) (h₀ := h₀) (h := s.heap)) rfl hf hke
  have X' := X.keeps F.keep
  refine codeAny_call_function (by simp at hdp ⊢; omega) (X' _ _ ho) rfl hco hgen rfl (codeRec_of X' hcd) (hbind _ _ _ _ ?_)
  refine wpAny_newFunctionEnv_cells hk (kindsX hkind _) fun env' he s' x => ?_
  subst he
  refine ⟨(T.nolimit.keeps F.keep).keeps x.toInCall.keep, codeAny_func ?_⟩
  obtain ⟨h₁, tk, rfl, _⟩ := x.done
  have hk₁ := x.toInCall.keep
  obtain ⟨cells, NC, Y⟩ := Cl.news (h₀ := s.heap) (Nat.le_refl _) fun n c hm => ⟨x.cell n c (lookup_of_mem_nodup (cellsFrom_names scope.names 0 (s.heap.objs.size + 1) [] [] rfl ▸ hnd) hm), x.above n c hm⟩
  have hb := h dp un gd env outer base s.heap.objs.size h₁ tk cells p loose mean mg mb ⟨x.toInCall.ns, hk₁, Nat.le_refl _⟩ NC Y BG X' (T.keeps F.keep) (by simp at hdp; omega) (by simp at hun; omega)
  exact wpAny_mono hb (fun fl s' hl => hl) fun _ _ y => y.elim
end Mine
end C4Part

/-! C5 -/
section C5Part
open PySem PySem.W PyProof.Rows
set_option maxRecDepth 100000
namespace Mine
section
variable {prog : Program} {w : World} {A : Around} {E : Value → Shared → Prop} {env : Env}
/-- a row of results, each by its place and its item -/
def Idx (G : Nat → Value → Value → Prop) (items ys : List Value) : Prop := ys.length = items.length ∧ ∀ j v r, items[j]? = some v → ys[j]? = some r → G j v r
theorem block_enum {elt iter : Expr} {x y : Str} {px py tp : Pos} {kk : Nat} {scope : Scope} {cl : List (Str × Addr)} {pos : Pos} {s₂ : Shared} {e it ax : Addr} {items : List Value} (G : Nat → Value → Value → Prop) {RR : Value → Addr → Result → Shared → Prop}
    (hh : A.handled = none) (hcell : ∀ z ∈ scope.names, z.2 ≠ .cell) (hkind : scope.kind = .function) (hx : scope.names.lookup x = some .local) (hy : scope.names.lookup y = some .local) (hxy : x ≠ y)
    (hei : e ≠ it) (hle : ax ≠ e) (hli : ax ≠ it) (he : IsEnum s₂.heap e it 0 .none) (hit : s₂.heap.IsListIter it ax 0) (hl : s₂.heap.IsList ax items.toArray) (hsz : items.length ≤ 1000)
    (helt : ∀ C i v t s₃ m₃, s₂.heap.objs.size ≤ C → items[i]? = some v → s₃.heap.Ns C m₃ → m₃ x = some (.int (i : Nat) t) → m₃ y = some v → (∀ b o, b ≠ e → b ≠ it → s₂.heap.get? b = some o → s₃.heap.get? b = some o) →
      wpAny (model prog w) A (eval elt (compEnvC scope cl C env)) (fun r s₄ => G i v r ∧ Keeps s₃ s₄) (fun _ _ => False) s₃)
    (hRR : ∀ D C h' tk m' (ys : List Value), s₂.heap.get? D = none → s₂.heap.get? C = none → D ≠ C → h'.Ns C m' → h'.PlainList D ys.toArray → Idx G items ys →
      (∀ b o, b ≠ e → b ≠ it → s₂.heap.get? b = some o → h'.get? b = some o) → RR (.ref D) C (.ok .next) { s₂ with heap := h', toks := tk }) :
    wpAny (model prog w) A (newList []) (fun acc s₃ => wpAny (model prog w) A (newFunctionEnv scope env.globals cl [] env.qual none .none (some env)) (fun cenv s₄ =>
      codeAny (model prog w) A (.compStart (.ListComp elt [⟨.Tuple [.Name x px, .Name y py] kk tp, iter, [], 0⟩] scope pos) 0 (.ref e) acc { cenv with scope := relabel scope env }) (RR acc cenv.locals) s₄) E s₃) E s₂ := by
  have W := WalksT.enumerate (prog := prog) (w := w) hh e it ax hei hle hli items.toArray
  have hst : (∃ old, IsEnum s₂.heap e it ((0 : Nat) : Int) old) ∧ s₂.heap.IsListIter it ax 0 ∧ s₂.heap.IsList ax items.toArray := ⟨⟨_, he⟩, hit, hl⟩
  have hfp : ∀ b ∈ [e, it, ax], b < s₂.heap.objs.size := by
    intro b hb
    simp only [List.mem_cons, List.not_mem_nil, or_false] at hb
    rcases hb with rfl | rfl | rfl
    · exact Heap.lt_size he
    · obtain ⟨_, q, _⟩ := hit; exact Heap.lt_size q
    · obtain ⟨_, q, _⟩ := hl; exact Heap.lt_size q
  have hwr : ∀ b : Addr, b ∉ [e, it] ↔ (b ≠ e ∧ b ≠ it) := by intro b; simp
  generalize ([e, it] : List Addr) = wr at W hwr
  generalize ([e, it, ax] : List Addr) = fp at W hfp
  generalize hSt : (fun (i : Nat) (h : Heap) => (∃ old, IsEnum h e it i old) ∧ h.IsListIter it ax i ∧ h.IsList ax items.toArray) = St at W
  replace hst : St 0 s₂.heap := by rw [← hSt]; exact hst
  refine wpAny_newObj_type (wpAny_newFunctionEnv hcell (by intro y hy; simp at hy) (fun h₁ hns₁ hsb₁ => ?_) hkind)
  dsimp only at hns₁ hsb₁ ⊢
  generalize hH2 : s₂.heap.push { cls := .type "list", dict := none, data := .seq ([] : List Value).toArray } = H2 at hns₁ hsb₁ ⊢
  have hC : H2.objs.size = s₂.heap.objs.size + 1 := by rw [← hH2, Heap.size_push]
  have hDC : s₂.heap.objs.size ≠ H2.objs.size := by rw [hC]; exact Nat.ne_of_lt (Nat.lt_succ_self _)
  have hCle : s₂.heap.objs.size ≤ H2.objs.size := by rw [hC]; exact Nat.le_succ _
  have below : ∀ b, b < s₂.heap.objs.size → b ≠ H2.objs.size ∧ b ≠ s₂.heap.objs.size := fun b hb => ⟨by rw [hC]; exact Nat.ne_of_lt (Nat.lt_succ_of_lt hb), Nat.ne_of_lt hb⟩
  have old : ∀ b o, s₂.heap.get? b = some o → h₁.get? b = some o := fun b o e => hsb₁.extBut b o (below b (Heap.lt_size e)).1 (Heap.get?_push_of_some _ (hH2 ▸ Heap.get?_push_of_some _ e))
  have hacc : h₁.PlainList s₂.heap.objs.size #[] := ⟨_, hsb₁.extBut _ _ hDC (Heap.get?_push_of_some _ (hH2 ▸ Heap.get?_push_size _ rfl))⟩
  have fresh : ∀ a, s₂.heap.objs.size ≤ a → s₂.heap.get? a = none := fun a ha => by
    cases e : s₂.heap.get? a with
    | none => rfl
    | some o' => exact absurd (Heap.lt_size e) (Nat.not_lt.mpr ha)
  have hCw : H2.objs.size ∉ wr := fun q => (below _ (hfp _ (W.sub _ q))).1 rfl
  have hDw : s₂.heap.objs.size ∉ wr := fun q => (below _ (hfp _ (W.sub _ q))).2 rfl
  have hst₁ : St 0 h₁ := W.frame _ _ _ hst fun b _ o q => old b o q
  have hbel : ∀ b o, s₂.heap.get? b = some o → b ≠ H2.objs.size ∧ b ≠ s₂.heap.objs.size := fun b o q => below b (Heap.lt_size q)
  have hfb : ∀ b ∈ fp, b ≠ H2.objs.size ∧ b ≠ s₂.heap.objs.size := fun b hb => below b (hfp b hb)
  have hCle' := hCle
  generalize hD : s₂.heap.objs.size = D at *
  generalize hCc : H2.objs.size = C at *
  have loop : ∀ s₃ : Shared, s₃ = { s₂ with heap := h₁, toks := s₂.toks + ([] : List (Str × Value)).length } →
      codeAny (model prog w) A (.compLoop (.ListComp elt [⟨.Tuple [.Name x px, .Name y py] kk tp, iter, [], 0⟩] scope pos) 0 (.ref e) (.ref D) (compEnvC scope cl C env)) (RR (.ref D) C) s₃ := by
    rintro s₃ rfl
    refine LCp.codeAny_compLoop_pair (fun k s' => ∃ h' tk m' i ys, s' = { s₂ with heap := h', toks := tk } ∧ i ≤ items.length ∧ k = items.length + 1 - i ∧ ys.length = i ∧ St i h' ∧ h'.Ns C m' ∧ h'.PlainList D ys.toArray ∧
      (∀ j v r, items[j]? = some v → ys[j]? = some r → G j v r) ∧ ∀ b o, b ∉ wr → s₂.heap.get? b = some o → h'.get? b = some o) ?_ (items.length + 1) ⟨h₁, _, _, 0, [], rfl, Nat.zero_le _, rfl, rfl, hst₁, hns₁, hacc, by simp, fun b o _ q => old b o q⟩
    rintro k s' ⟨h', tk, m', i, ys, rfl, hi, rfl, hyl, hst', hn', hp', hG, hk⟩
    by_cases hlt : i < items.length
    · refine W.item i _ _ _ (by simpa using hlt) hst' fun T vals h₂ tk₂ hPt hT hTup hMid hk₂ => ?_
      obtain ⟨t, v, hv, rfl⟩ := hPt
      replace hv : items[i]? = some v := by simpa using hv
      have hTw := W.apart _ _ _ hMid
      refine W.go _ _ _ _ _ _ _ _ hMid fun h₃ hst₃ hk₃ => ?_
      have hTup₃ : IsTup h₃ T #[.int i t, v] := by
        obtain ⟨o, q, r⟩ := hTup
        exact ⟨o, hk₃ _ _ hTw q, r⟩
      refine assign_Tuple_tuple hh hTup₃ rfl rfl fun h₅ he₅ => ?_
      have he' : ∀ b o, h₃.get? b = some o → h₅.get? b = some o := fun b o e => he₅ b o (Nat.ne_of_lt (Heap.lt_size e)) e
      have hn₅ : h₅.Ns C m' := ((hn'.at' fun o q => hk₂ _ o hCw q).at' fun o q => hk₃ _ o hCw q).at' fun o q => he' _ o q
      refine assignInOrder_cons (wpAny_assign_Name (wpAny_storeName_local (lookup_relabel_local hx) hn₅ (fun h₆ hn₆ hs₆ => ?_) (by simp [compEnvC, relabel, hkind])))
      refine assignInOrder_cons (wpAny_assign_Name (wpAny_storeName_local (lookup_relabel_local hy) hn₆ (fun h₇ hn₇ hs₇ => ?_) (by simp [compEnvC, relabel, hkind])))
      refine assignInOrder_nil ?_
      have up7 : ∀ b o, b ≠ C → h₃.get? b = some o → h₇.get? b = some o := fun b o hb q => hs₇.extBut b o hb (hs₆.extBut b o hb (he' b o q))
      have keep7 : ∀ b o, b ∉ wr → s₂.heap.get? b = some o → h₇.get? b = some o := fun b o hb q => up7 b o (hbel b o q).1 (hk₃ b o hb (hk₂ b o hb (hk b o hb q)))
      have hp₇ : h₇.PlainList D ys.toArray := by
        obtain ⟨n, q⟩ := hp'
        exact ⟨n, up7 _ _ hDC (hk₃ _ _ hDw (hk₂ _ _ hDw q))⟩
      have hst₇ : St (i + 1) h₇ := W.frame _ _ _ hst₃ fun b hb o q => up7 b o (hfb b hb).1 q
      refine wpAny_mono (helt C i v t _ _ hCle hv hn₇ (by simp [hxy]) (by simp) fun b o h1 h2 q => keep7 b o ((hwr b).mpr ⟨h1, h2⟩) q) (fun r s₈ hr => ?_) fun _ _ f => f.elim
      obtain ⟨hg, h₈, tk₈, rfl, k₈⟩ := hr
      dsimp only at k₈ ⊢
      refine wpAny_list_append_plain (s := { s₂ with heap := h₈, toks := tk₈ }) (hp₇.at fun o q => k₈ _ o q) (fun h₉ hp₉ hs₉ => ?_) (by rw [sizeLine_eq]; simp only [List.size_toArray]; omega)
      refine ⟨items.length + 1 - (i + 1), by omega, h₉, _, _, i + 1, ys ++ [r], rfl, hlt, rfl, by simp [hyl], ?_, (hn₇.at' fun o q => k₈ _ o q).sameBut hs₉ (Ne.symm hDC), by simpa using hp₉, ?_, fun b o hb q => hs₉.extBut b o (hbel b o q).2 (k₈ b o (keep7 b o hb q))⟩
      · exact W.frame _ _ _ hst₇ fun b hb o q => hs₉.extBut b o (hfb b hb).2 (k₈ b o q)
      · intro j v' r' hv' hr'
        rcases Nat.lt_trichotomy j i with hj | rfl | hj
        · rw [List.getElem?_append_left (by omega)] at hr'
          exact hG j v' r' hv' hr'
        · rw [hv] at hv'
          rw [List.getElem?_append_right (by omega), hyl] at hr'
          simp at hr'
          cases hv'
          subst hr'
          exact hg
        · rw [List.getElem?_eq_none (by simp; omega)] at hr'
          cases hr'
    · have hie : i = items.length := by omega
      refine W.done _ _ _ (by simpa [← hie] using hst') fun h₂ tk₂ hk₂ => ?_
      refine hRR D C h₂ tk₂ m' ys (fresh _ (Nat.le_refl _)) (fresh _ hCle) hDC (hn'.at' fun o q => hk₂ _ o hCw q) (hp'.at fun o q => hk₂ _ o hDw q) ⟨by omega, hG⟩ fun b o h1 h2 q => hk₂ b o ((hwr b).mpr ⟨h1, h2⟩) (hk b o ((hwr b).mpr ⟨h1, h2⟩) q)
  exact codeAny_compStart_list (loop _ rfl) (W.self 0 _ _ _ hst₁ (loop _ rfl))
theorem Assign_enum {s : Shared} {elt iter : Expr} {x y z : Str} {px py tp pz : Pos} {kk : Nat} {scope : Scope} {cl : List (Str × Addr)} {pos spos : Pos} {Q : Flow → Shared → Prop} {h₀ : Heap} {m : Str → Option Value} {news : List (Addr × Obj)} {ax : Addr} {items : List Value} (G : Nat → Value → Value → Prop)
    (hh : A.handled = none) (F : Fr h₀ env.locals s.heap m) (N : News h₀ env.locals s.heap news) (hl : s.heap.IsList ax items.toArray)
    (hi0 : ∀ Q' : Value → Shared → Prop, (∀ e it h' tk, e ≠ it → s.heap.get? e = none → s.heap.get? it = none → IsEnum h' e it 0 .none → h'.IsListIter it ax 0 → (∀ b o, s.heap.get? b = some o → h'.get? b = some o) → s.heap.objs.size ≤ h'.objs.size → Q' (.ref e) { s with heap := h', toks := tk }) → wpAny (model prog w) A (eval iter env) Q' E s)
    (hsz : items.length ≤ 1000)
    (helt : ∀ C i v t s₃ m₃, s.heap.objs.size ≤ C → items[i]? = some v → s₃.heap.Ns C m₃ → m₃ x = some (.int (i : Nat) t) → m₃ y = some v → (∀ b o, s.heap.get? b = some o → s₃.heap.get? b = some o) →
      wpAny (model prog w) A (eval elt (compEnvC scope cl C env)) (fun r s₄ => G i v r ∧ Keeps s₃ s₄) (fun _ _ => False) s₃)
    (hQ : ∀ D h' tk c (ys : List Value), Fr h₀ env.locals h' (fun q => if q = z then some (.ref D) else m q) → News h₀ env.locals h' ((D, listOf ys.toArray c) :: news) → Idx G items ys → Q .next { s with heap := h', toks := tk })
    (hsw : swapsWith (.ListComp elt [⟨.Tuple [.Name x px, .Name y py] kk tp, iter, [], 0⟩] scope pos) (some (.Name z pz)) spos.line env = pure true) (hclos : closureFor scope env = pure cl)
    (hcell : ∀ z ∈ scope.names, z.2 ≠ .cell) (hkind : scope.kind = .function) (hnames : ∀ z ∈ scope.names, z.2 = .local → scope.names.lookup z.1 = some .local) (hx : scope.names.lookup x = some .local) (hy : scope.names.lookup y = some .local) (hxy : x ≠ y)
    (hz : env.kindOf z = some .local) (hp : (env.scope.kind == .class || (env.scope.kind == .module && env.locals != env.globals)) = false)
    (hs0 : ∀ x, foldedSetIterable iter env x = pure x) :
    wpAny (model prog w) A (exec (.Assign [.Name z pz] (.ListComp elt [⟨.Tuple [.Name x px, .Name y py] kk tp, iter, [], 0⟩] scope pos) spos) env) Q E s := by
  rw [exec_Assign_Name_used _ _ _ _ hsw]
  refine wpAny_bind (wpAny_standAt (wpAny_bind ?_))
  show wpAny _ A (do let _ ← comprehension (.ListComp elt [⟨.Tuple [.Name x px, .Name y py] kk tp, iter, [], 0⟩] scope pos) scope env _ (newList []) false (eval iter env) (some (assign (.Name z pz) env))) _ _ s
  refine wpAny_bind (wpAny_mono (wpAny_comprehension_free (use := some (assign (.Name z pz) env)) (Q := fun _ s' => Q .next s') rfl hs0 hclos hkind hnames
    (hi0 _ fun e it h₂ tk₂ hei he0 hit0 hE hI up hsz₂ => wpAny_pyIter_enum hE ?_)) (fun _ s' hq => wpAny_pure (wpAny_pure hq)) fun _ _ e => e)
  have off : ∀ b o, s.heap.get? b = some o → b ≠ e ∧ b ≠ it := fun b o q => ⟨(fun h => by rw [h, he0] at q; cases q), (fun h => by rw [h, hit0] at q; cases q)⟩
  have hne : ax ≠ e ∧ ax ≠ it := by obtain ⟨_, q, _⟩ := hl; exact off _ _ q
  refine block_enum (s₂ := { s with heap := h₂, toks := tk₂ }) (RR := fun acc C => compPost (model prog w) A E (some (assign (.Name z pz) env)) (fun _ s' => Q .next s') acc C) G hh hcell hkind hx hy hxy
    hei hne.1 hne.2 hE hI (hl.at fun o e => up _ o e) hsz ?_ ?_
  · intro C i v t s₃ m₃ hC hv hn hm hm' hk
    refine helt C i v t s₃ m₃ (Nat.le_trans hsz₂ hC) hv hn hm hm' fun b o q => hk b o (off b o q).1 (off b o q).2 (up b o q)
  · intro D C h' tk m' ys hD hC hDC hnC hpD hP hk
    have hkeep : ∀ b o, s.heap.get? b = some o → h'.get? b = some o := fun b o q => hk b o (off b o q).1 (off b o q).2 (up b o q)
    have hD0 : s.heap.get? D = none := by
      cases e : s.heap.get? D with
      | none => rfl
      | some o => have := up D o e; rw [hD] at this; cases this
    have hC0 : s.heap.get? C = none := by
      cases e : s.heap.get? C with
      | none => rfl
      | some o => have := up C o e; rw [hC] at this; cases this
    have hLC : env.locals ≠ C := by rintro rfl; obtain ⟨o, _, _, ho, _⟩ := F.ns; rw [hC0] at ho; cases ho
    have hLD : env.locals ≠ D := by rintro rfl; obtain ⟨o, _, _, ho, _⟩ := F.ns; rw [hD0] at ho; cases ho
    show wpAny _ A (assign (.Name z pz) env (.ref D)) _ _ _
    refine wpAny_assign_Name (wpAny_storeName_local hz (F.ns.at' fun o e => hkeep _ o e) (fun h₂ hn₂ hs₂ => ?_) hp)
    refine ⟨m', hnC.sameBut hs₂ (Ne.symm hLC), fun h₃ hs₃ => ?_⟩
    obtain ⟨c, hc⟩ := (hpD.extBut hs₂.extBut (Ne.symm hLD)).extBut hs₃.extBut hDC
    refine hQ D h₃ _ c ys ⟨hn₂.sameBut hs₃ hLC, fun b o e => ?_, F.above⟩ (fun p hp => ?_) hP
    · have e' := F.keep b o e
      have hbL : b ≠ env.locals := Nat.ne_of_lt (Nat.lt_of_lt_of_le (Heap.lt_size e) F.above)
      exact hs₃.extBut b o (fun q => by rw [q, hC0] at e'; cases e') (hs₂.extBut b o hbL (hkeep b o e'))
    · rcases List.mem_cons.mp hp with rfl | hp
      · refine ⟨hc, Ne.symm hLD, ?_⟩
        cases e : h₀.get? D with
        | none => rfl
        | some o => rw [F.keep _ _ e] at hD0; cases hD0
      · have e' := (N p hp).1
        exact ⟨hs₃.extBut _ _ (fun q => by rw [q, hC0] at e'; cases e') (hs₂.extBut _ _ (N p hp).2.1 (hkeep _ _ e')), (N p hp).2⟩
end
end Mine
end C5Part

/-! C7 -/
section C7Part
open PySem PySem.W PyProof.Rows
namespace Mine
/-- the stray sign of an octet, by its number -/
def sN (o : Int) : Nat := if o < 128 then o.toNat else (56320 + o).toNat
theorem stray_tx (o : Int) : stray o = tx [sN o] := by
  unfold stray sN
  split <;> rfl
theorem glue_ones : ∀ (l : List Nat) (a : Array Nat), (l.map fun a => tx [a]).foldl (fun acc p => acc ++ (Str.ofString "").cps ++ p.cps) a = a ++ l.toArray
  | [], a => by simp
  | x :: l, a => by
    simp only [List.map_cons, List.foldl_cons]
    rw [glue_ones l]
    have e : (Str.ofString "").cps = #[] := by decide
    rw [e]
    simp
theorem join_tx (l : List Nat) : Txt.join (Str.ofString "") (l.map fun a => tx [a]) = tx l := by
  show Builtin.Str.glued (Str.ofString "") _ = _
  cases l with
  | nil => rfl
  | cons x l =>
    show Str.mk ((l.map fun a => tx [a]).foldl (fun acc p => acc ++ (Str.ofString "").cps ++ p.cps) (tx [x]).cps) = _
    rw [glue_ones]
    simp
theorem carried_ones : ∀ {ys : List Value} (l : List Nat), StrsAre ys (l.map fun a => tx [a]) → CarriedAll ys (l.map fun a => PyData.str (tx [a]))
  | _, [], .nil => .nil
  | _, x :: l, .cons _ t h => .cons (.str _ _) (carried_ones l h)
theorem join_call {prog : Program} {w : World} {A : Around} {E : Value → Shared → Prop} {s : Shared} {t : Tok} {Q : Value → Shared → Prop} {D : Addr} {ys : List Value} {l : List Nat}
    (hl : s.heap.IsList D ys.toArray) (hc : StrsAre ys (l.map fun a => tx [a])) (hn : l.length ≤ 1000) (h : ∀ t' k, Q (.str (tx l) t') { s with toks := k }) :
    wpAny (model prog w) A (call (.builtin "str.join") [.str (Str.ofString "") t, .ref D]) Q E s :=
  KT.join_1 hl (carried_ones l hc) (fun a _ => rfl) (by omega) fun t' k _ => by rw [join_tx]; exact h t' k
theorem newsPut {h₀ h h' : Heap} {L r : Addr} {o : Obj} {m : Str → Option Value} {news : List (Addr × Obj)} (F : Fr h₀ L h m) (N : News h₀ L h news) (k : ∀ x o, h.get? x = some o → h'.get? x = some o) (hn : h.get? r = none) (hg : h'.get? r = some o) : News h₀ L h' ((r, o) :: news) := by
  intro p hp
  rcases List.mem_cons.mp hp with rfl | hp
  · refine ⟨hg, ?_, ?_⟩
    · rintro rfl; obtain ⟨o, _, _, ho, _⟩ := F.ns; rw [hn] at ho; cases ho
    · cases e : h₀.get? r with
      | none => rfl
      | some o' => rw [F.keep _ _ e] at hn; cases hn
  · exact ⟨k _ _ (N p hp).1, (N p hp).2⟩
theorem neCell {h₀ h : Heap} {L D c : Addr} {oc : Obj} {vs : Array Value} {n : Nat} {v : Option Value} {news : List (Addr × Obj)} (N : News h₀ L h news) (h1 : (D, listOf vs n) ∈ news) (h2 : (c, oc) ∈ news) (hd : oc.data = .cell v) : D ≠ c := by
  rintro rfl
  have e := (N _ h1).1
  rw [(N _ h2).1] at e
  cases e
  cases hd
end Mine
end C7Part

/-! C8 -/
section C8Part
open PySem PySem.W PyProof.Rows
set_option maxRecDepth 100000
namespace Mine
theorem For_list {prog : Program} {w : World} {A : Around} {E : Value → Shared → Prop} {env : Env} {s : Shared} {iter : Expr} {x : Str} {px pos : Pos} {body : List Stmt} {Q : Flow → Shared → Prop} {h₀ : Heap} {m : Str → Option Value} {news : List (Addr × Obj)} {ax : Addr} {items : List Value} (J : (Str → Option Value) → Prop)
    (hh : A.handled = none) (F : Fr h₀ env.locals s.heap m) (N : News h₀ env.locals s.heap news) (hl : h₀.IsList ax items.toArray) (hi0 : ∀ Q' : Value → Shared → Prop, Q' (.ref ax) s → wpAny (model prog w) A (eval iter env) Q' E s)
    (h0 : J m)
    (step : ∀ v I oI h₁ tk m₁, v ∈ items → J m₁ → Fr h₀ env.locals h₁ (fun y => if y = x then some v else m₁ y) → News h₀ env.locals h₁ ((I, oI) :: news) →
      wpAny (model prog w) A (execs body env) (fun f s₂ => Stop (f = .next ∧ ∃ h₂ tk₂ m₂, s₂ = { s with heap := h₂, toks := tk₂ } ∧ Fr h₀ env.locals h₂ m₂ ∧ News h₀ env.locals h₂ ((I, oI) :: news) ∧ J m₂)) (fun _ _ => False) { s with heap := h₁, toks := tk })
    (hQ : ∀ h' tk m', Fr h₀ env.locals h' m' → News h₀ env.locals h' news → J m' → Q .next { s with heap := h', toks := tk })
    (hx : env.kindOf x = some .local) (hp : (env.scope.kind == .class || (env.scope.kind == .module && env.locals != env.globals)) = false)
    (hs0 : ∀ x, foldedSetIterable iter env x = pure x) :
    wpAny (model prog w) A (exec (.For (.Name x px) iter body [] pos) env) Q E s := by
  have hls : s.heap.IsList ax items.toArray := hl.at fun o e => F.keep _ o e
  refine wpAny_For (hi0 _ (wpAny_pyIter_list hls ?_)) hs0
  have up : ∀ b o, s.heap.get? b = some o → (s.heap.push { cls := .type "list_iterator", data := .fields #[.ref ax, .int 0 0] }).get? b = some o := fun b o e => Heap.get?_push_of_some _ e
  have hI : (s.heap.push { cls := .type "list_iterator", data := .fields #[.ref ax, .int 0 0] }).IsListIter s.heap.objs.size ax 0 := ⟨_, Heap.get?_push_size _ rfl, rfl, rfl⟩
  have hLne : env.locals ≠ s.heap.objs.size := Nat.ne_of_lt F.ns.lt
  have hI0 : h₀.get? s.heap.objs.size = none := Heap.get?_none_of_le (Nat.le_trans F.above (Nat.le_of_lt F.ns.lt))
  have hnI : ∀ p ∈ news, p.1 ≠ s.heap.objs.size := fun p hp => Nat.ne_of_lt (Heap.lt_size (N p hp).1)
  have hne : ∀ b o, h₀.get? b = some o → b ≠ s.heap.objs.size ∧ b ≠ env.locals := fun b o e => ⟨(fun q => by rw [q, hI0] at e; cases e), Nat.ne_of_lt (Nat.lt_of_lt_of_le (Heap.lt_size e) F.above)⟩
  have hax : ax ≠ s.heap.objs.size := by obtain ⟨_, q, _⟩ := hl; exact (hne _ _ q).1
  have F₁ := Fr.keeps F up
  have N₁ := newsExt N up
  generalize s.heap.objs.size = I at *
  refine codeAny_forLoop_any (fun k s' => ∃ h' tk m' i, s' = { s with heap := h', toks := tk } ∧ h'.IsListIter I ax i ∧ Fr h₀ env.locals h' m' ∧ News h₀ env.locals h' news ∧ J m' ∧ i ≤ items.length ∧ k = items.length + 1 - i) ?_ (items.length + 1)
    ⟨_, s.toks, m, 0, rfl, hI, F₁, N₁, h0, Nat.zero_le _, rfl⟩
  rintro k s' ⟨h', tk, m', i, rfl, hit, F', N', hJ, hi, rfl⟩
  have hl' : h'.IsList ax items.toArray := hl.at fun o e => F'.keep _ o e
  cases hv : items[i]? with
  | none =>
    refine wpAny_pyNext_list_end hh hit hl' (by simpa using hv) fun h₂ he₂ => wpAny_execs_nil ?_
    exact hQ h₂ tk m' ⟨F'.ns.extBut he₂ hLne, fun b o e => he₂ b o (hne b o e).1 (F'.keep b o e), F'.above⟩ (fun p hp => ⟨he₂ _ _ (hnI p hp) (N' p hp).1, (N' p hp).2⟩) hJ
  | some v =>
    have hlt : i < items.length := (List.getElem?_eq_some_iff.mp hv).1
    refine wpAny_pyNext_list_item hit hl' (by simpa using hv) fun h₂ hit₂ hs₂ => ?_
    refine wpAny_of_eq rfl ?_
    refine wpAny_assign_Name (wpAny_storeName_local hx (F'.ns.sameBut hs₂ hLne) (fun h₃ hn₃ hs₃ => ?_) hp)
    obtain ⟨oI, hoI, hc, hd⟩ := hit₂.extBut hs₃.extBut (Ne.symm hLne)
    have F₃ : Fr h₀ env.locals h₃ (fun y => if y = x then some v else m' y) := ⟨hn₃, fun b o e => hs₃.extBut b o (hne b o e).2 (hs₂.extBut b o (hne b o e).1 (F'.keep b o e)), F'.above⟩
    have N₃ : News h₀ env.locals h₃ ((I, oI) :: news) := by
      intro p hp
      rcases List.mem_cons.mp hp with rfl | hp
      · exact ⟨hoI, Ne.symm hLne, hI0⟩
      · exact ⟨hs₃.extBut _ _ (N' p hp).2.1 (hs₂.extBut _ _ (hnI p hp) (N' p hp).1), (N' p hp).2⟩
    refine wpAny_mono (step v I oI h₃ _ m' (List.mem_of_getElem? hv) hJ F₃ N₃) (fun f s₄ h₄ => ?_) fun _ _ f => f.elim
    obtain ⟨rfl, h₅, tk₅, m₅, rfl, F₅, N₅, hJ₅⟩ := h₄
    refine ⟨items.length + 1 - (i + 1), by omega, h₅, tk₅, m₅, i + 1, rfl, ⟨oI, (N₅ _ List.mem_cons_self).1, hc, hd⟩, F₅, fun p hp => N₅ p (List.mem_cons_of_mem _ hp), hJ₅, hlt, rfl⟩
end Mine
end C8Part

/-! P0 -/
section P0Part
open PySem PySem.W PyProof.Rows
namespace Mine
def szOf (n : Int) : Int := n % 4 + 1
def bsOf (k : Int) : Int := if k = 1 then 48 else if k = 2 then 1488 else if k = 3 then 12354 else 128512
theorem sz_ints : ∀ {vs ys : List Value} {ns : List Int}, IntsAre vs ns → Paired (fun v y => ∃ n t t', v = Value.int n t ∧ y = Value.int (n % 4 + 1) t') vs ys → IntsAre ys (ns.map szOf)
  | _, _, _, .nil, .nil => .nil
  | _, _, _, .cons n t h, .cons ⟨k, t₁, t₂, e, ey⟩ hr => by
    cases e
    subst ey
    exact .cons _ _ (sz_ints h hr)
noncomputable def ptsFrom : Nat → List Int → List Int
  | _, [] => []
  | i, k :: ks => (bsOf k + i) :: ptsFrom (i + 1) ks
theorem pts_ints : ∀ {vs : List Value} {ks : List Int} {ys : List Value}, IntsAre vs ks → ∀ i : Nat, ys.length = vs.length → (∀ (j : Nat) v r, vs[j]? = some v → ys[j]? = some r → ∃ k t t', v = Value.int k t ∧ r = Value.int (bsOf k + ((i + j : Nat) : Int)) t') → IntsAre ys (ptsFrom i ks)
  | _, _, ys, .nil, i, hl, h => by
    have : ys = [] := by simpa using hl
    subst this
    exact .nil
  | _, _, ys, .cons (vs := vs) n t hv, i, hl, h => by
    cases ys with
    | nil => simp at hl
    | cons y ys =>
      obtain ⟨k, t₁, t₂, e, rfl⟩ := h 0 _ _ rfl rfl
      cases e
      refine .cons _ _ (pts_ints hv (i + 1) (by simpa using hl) fun j v r h1 h2 => ?_)
      obtain ⟨k, t₁, t₂, e, e'⟩ := h (j + 1) v r (by simpa using h1) (by simpa using h2)
      exact ⟨k, t₁, t₂, e, by rw [e']; congr 3; omega⟩
theorem pts_bd : ∀ (ks : List Int) (i : Nat), i + ks.length ≤ 80 → ∀ p ∈ ptsFrom i ks, 48 ≤ p ∧ p < 128600
  | [], _, _, p, hp => by cases hp
  | k :: ks, i, h, p, hp => by
    rcases List.mem_cons.mp hp with rfl | hp
    · unfold bsOf
      simp only [List.length_cons] at h
      (repeat' split) <;> omega
    · exact pts_bd ks (i + 1) (by simp only [List.length_cons] at h; omega) p hp
theorem chr_strs : ∀ {vs ys : List Value} {ns : List Int}, IntsAre vs ns → Paired (fun v y => ∃ k t t', v = Value.int k t ∧ y = Value.str ⟨#[k.toNat]⟩ t') vs ys → StrsAre ys (ns.map fun k => ⟨#[k.toNat]⟩)
  | _, _, _, .nil, .nil => .nil
  | _, _, _, .cons n t h, .cons ⟨k, t₁, t₂, e, ey⟩ hr => by
    cases e
    subst ey
    exact .cons _ _ (chr_strs h hr)
theorem pts_len : ∀ (i : Nat) (zs : List Int), (ptsFrom i zs).length = zs.length
  | _, [] => rfl
  | i, _ :: zs => by simp [ptsFrom, pts_len (i + 1) zs]
/-- the text, its octets as stray signs, for a row of sizes -/
noncomputable def txtOf (zs : List Int) : List Nat := (ptsFrom 0 zs).map Int.toNat
noncomputable def ssOf (zs : List Int) : List Nat := ((ptsFrom 0 zs).flatMap octs).map sN
/-- sizes that the law makes -/
def Sizes (zs : List Int) : Prop := 0 < zs.length ∧ zs.length ≤ 6 ∧ ∀ k ∈ zs, 1 ≤ k ∧ k ≤ 4
/-- what the law says of how far apart they are -/
def dueOf (p k q j : Int) : Int := 2 * min (k + j) (((p - q).natAbs : Int) + max ((p - q).natAbs : Int) ((k - j).natAbs : Int))
end Mine
end P0Part

/-! C9 -/
section C9Part
open PySem PySem.W PyProof.Rows
namespace Mine
section
variable {prog : Program} {w : World} {A : Around} {E : Value → Shared → Prop} {env : Env} {s : Shared} {ex ey : Expr} {p pos : Pos} {Q : Value → Shared → Prop} {r : Addr} {us : List Value} {k : Nat} {t : Tok} {c : Nat}
theorem push2_keeps (h : Heap) (a b : Obj) : Keeps' h ((h.push a).push b) := fun _ _ e => Heap.get?_push_of_some _ (Heap.get?_push_of_some _ e)
theorem push2_get (h : Heap) (a b : Obj) (hb : b.isFreed = false) : ((h.push a).push b).get? (h.objs.size + 1) = some b := by
  have e := Heap.get?_push_size (h.push a) (o := b)
  rw [Heap.size_push] at e
  exact e hb
theorem sub_upto (hg : s.heap.get? r = some (listOf us.toArray c)) (hsz : us.length ≤ 1000) (hex : ∀ Q' : Value → Shared → Prop, Q' (.ref r) s → wpAny (model prog w) A (eval ex env) Q' E s) (hey : ∀ Q' : Value → Shared → Prop, Q' (.int (k : Nat) t) s → wpAny (model prog w) A (eval ey env) Q' E s)
    (h : ∀ h' r', Keeps' s.heap h' → h'.IsList r' (us.take k).toArray → Q (.ref r') { s with heap := h' }) (ht : ∀ o r, letTemporaryGo ex o r = pure ()) :
    wpAny (model prog w) A (eval (.Subscript ex (.Slice none (some ey) none p) pos) env) Q E s := by
  refine wpAny_Subscript_list_slice (hex _ ?_) ht
  rw [evalPart_none]
  refine wpAny_pure (wpAny_evalPart_some (hey _ ?_))
  refine ⟨r, us.toArray, none, some k, rfl, ⟨_, hg, rfl, c, rfl⟩, by rw [sizeLine_eq]; simp; omega, .none, .int _ _, ?_⟩
  rw [slicePick_upto']
  refine h _ _ (push2_keeps _ _ _) ⟨_, push2_get _ _ _ rfl, rfl, 0, rfl⟩
theorem sub_from (hg : s.heap.get? r = some (listOf us.toArray c)) (hsz : us.length ≤ 1000) (hex : ∀ Q' : Value → Shared → Prop, Q' (.ref r) s → wpAny (model prog w) A (eval ex env) Q' E s) (hey : ∀ Q' : Value → Shared → Prop, Q' (.int (k : Nat) t) s → wpAny (model prog w) A (eval ey env) Q' E s)
    (h : ∀ h' r', Keeps' s.heap h' → h'.IsList r' (us.drop k).toArray → Q (.ref r') { s with heap := h' }) (ht : ∀ o r, letTemporaryGo ex o r = pure ()) :
    wpAny (model prog w) A (eval (.Subscript ex (.Slice (some ey) none none p) pos) env) Q E s := by
  refine wpAny_Subscript_list_slice (hex _ ?_) ht
  refine wpAny_evalPart_some (hey _ ?_)
  rw [evalPart_none]
  refine wpAny_pure ?_
  refine ⟨r, us.toArray, some k, none, rfl, ⟨_, hg, rfl, c, rfl⟩, by rw [sizeLine_eq]; simp; omega, .int _ _, .none, ?_⟩
  rw [slicePick_from']
  refine h _ _ (push2_keeps _ _ _) ⟨_, push2_get _ _ _ rfl, rfl, 0, rfl⟩
end
theorem strs_take : ∀ {vs : List Value} {ns : List Nat} (k : Nat), StrsAre vs (ns.map fun a => tx [a]) → StrsAre (vs.take k) ((ns.take k).map fun a => tx [a])
  | _, _, 0, _ => .nil
  | _, [], _ + 1, .nil => .nil
  | _, n :: ns, k + 1, .cons _ t h => .cons _ t (strs_take k h)
theorem strs_drop : ∀ {vs : List Value} {ns : List Nat} (k : Nat), StrsAre vs (ns.map fun a => tx [a]) → StrsAre (vs.drop k) ((ns.drop k).map fun a => tx [a])
  | _, _, 0, h => h
  | _, [], _ + 1, .nil => .nil
  | _, n :: ns, k + 1, .cons _ t h => strs_drop k h
theorem Cx.less {w : World} {A : Around} {s : Shared} {d u d' u' : Nat} (C : Cx w A s d u) (hd : d' ≤ d) (hu : u' ≤ u) : Cx w A s d' u' := by
  obtain ⟨A₀, base, outer, h₀, L, m, env, p, loose, mean, mg, mb, B, F, X, T, hA, hf, hke, hdp, hun, hh⟩ := C.out
  exact ⟨A₀, base, outer, h₀, L, m, env, p, loose, mean, mg, mb, B, F, X, T, hA, hf, hke, by omega, by omega, hh⟩
theorem seen_two {zs : List Int} {c1 c2 : Nat} {t1 t2 : Tok} {ys : List Value}
    (h : Paired (fun v y => ∃ (k : Nat) (t t' : Tok) (o : List Nat), v = Value.int k t ∧ y = Value.str (tx o) t' ∧ meant (tx (txtOf zs)) (cutAt zs k).1 (cutAt zs k).2 = tx o) [Value.int (c1 : Nat) t1, Value.int (c2 : Nat) t2] ys) :
    ∃ o1 o2 u1 u2, ys = [Value.str (tx o1) u1, Value.str (tx o2) u2] ∧ meant (tx (txtOf zs)) (cutAt zs c1).1 (cutAt zs c1).2 = tx o1 ∧ meant (tx (txtOf zs)) (cutAt zs c2).1 (cutAt zs c2).2 = tx o2 := by
  cases h with
  | cons a r =>
    cases r with
    | cons b r =>
      cases r
      obtain ⟨k, t, t', o, e, rfl, hm⟩ := a
      obtain ⟨k', u, u', o', e', rfl, hm'⟩ := b
      injection e with e
      injection e' with e'
      have e := Int.ofNat.inj e
      have e' := Int.ofNat.inj e'
      subst e e'
      exact ⟨_, _, _, _, rfl, hm, hm'⟩
theorem ne_two {prog : Program} {w : World} {A : Around} {E : Value → Shared → Prop} {s : Shared} {a b : Addr} {Q : Value → Shared → Prop} {x y : Str} {t1 t2 u1 u2 : Tok} (hx : PyData.strOk x = true) (hy : PyData.strOk y = true)
    (ha : s.heap.IsList a #[.str x t1, .str y t2]) (hb : s.heap.IsList b #[.str x u1, .str y u2]) (hu : A.units + 64 < cLine) (h : Q (.bool false) s) :
    wpAny (model prog w) A (compareOp .NotEq (.ref a) (.ref b)) Q E s := by
  have sh : SeqAt.shaped (.list [PyData.str x, PyData.str y]) = true := by
    simp [SeqAt.shaped, PyData.canLay0, PyData.depth, PyData.canLayAll0, PyData.depthAll, hx, hy]
  refine ne_dataH_same (reads_newData (ys := [.str x t1, .str y t2]) ha (.cons (.str _ _) (.cons (.str _ _) .nil))) (reads_newData (ys := [.str x u1, .str y u2]) hb (.cons (.str _ _) (.cons (.str _ _) .nil))) sh sh hu (SeqAt.noMix_of_shape (.list .str) rfl _ _ ?_ ?_) ?_
  · rfl
  · rfl
  · simpa [PySem.Spec.same, PySem.Spec.sameAll] using h
end Mine
end C9Part

/-! P1 -/
section P1Part
open PySem PySem.W PyProof.Rows PySem.Builtin
namespace Mine
/-- from p on the row reads l -/
def Rest (b : Array UInt8) (p : Nat) (l : List UInt8) : Prop := b.size = p + l.length ∧ ∀ k, b[p + k]? = l[k]?
theorem Rest.next {b : Array UInt8} {p : Nat} {x : UInt8} {l : List UInt8} (h : Rest b p (x :: l)) : Rest b (p + 1) l := by
  refine ⟨by rw [h.1]; simp; omega, fun k => ?_⟩
  have := h.2 (k + 1)
  rw [List.getElem?_cons_succ] at this
  rw [← this]
  congr 1
  omega
theorem Rest.skip {b : Array UInt8} : ∀ {g : List UInt8} {p : Nat} {l : List UInt8}, Rest b p (g ++ l) → Rest b (p + g.length) l
  | [], p, l, h => h
  | x :: g, p, l, h => by
    have := Rest.skip (g := g) h.next
    rw [List.length_cons, show p + (g.length + 1) = p + 1 + g.length by omega]
    exact this
theorem Rest.start (l : List UInt8) : Rest l.toArray 0 l := ⟨by simp, fun k => by simp⟩
theorem Rest.getD {b : Array UInt8} {p : Nat} {x : UInt8} {l : List UInt8} (h : Rest b p (x :: l)) : b.getD p 0 = x := by
  have := h.2 0
  simp only [Nat.add_zero, List.getElem?_cons_zero] at this
  rw [Array.getD_eq_getD_getElem?, this]
  rfl
theorem dec_end {b : Array UInt8} {p : Nat} (h : Rest b p []) : Dec b p [] := .stop (by rw [h.1]; simp)
theorem dec_1 {b : Array UInt8} {p : Nat} {x : UInt8} {l : List UInt8} {out : List Nat} (h : Rest b p (x :: l)) (hx : x.toNat < 128) (r : Dec b (p + 1) out) : Dec b p (x.toNat :: out) := by
  refine .char (q := p + 1) (by rw [h.1]; simp) ?_ (by omega) r
  unfold Bytes.utf8At
  rw [h.getD]
  simp only [hx, if_true]
theorem dec_mark {b : Array UInt8} {p : Nat} {x : UInt8} {l : List UInt8} {out : List Nat} (h : Rest b p (x :: l)) (h1 : 128 ≤ x.toNat) (h2 : x.toNat < 192) (r : Dec b (p + 1) out) : Dec b p (0xFFFD :: out) := by
  refine .bad (p' := p) (q := p + 1) (q' := p + 1) (why := "invalid start byte") (by rw [h.1]; simp) ?_ (by omega) (by rw [h.1, List.length_cons]; omega) (by decide) r
  unfold Bytes.utf8At
  rw [h.getD]
  have e0 : ¬ x.toNat < 0x80 := by omega
  have e1 : (decide (0xC2 ≤ x.toNat) && decide (x.toNat ≤ 0xDF)) = false := by simp; omega
  have e2 : (x.toNat == 0xE0) = false := by simp; omega
  have e3 : (x.toNat == 0xED) = false := by simp; omega
  have e4 : (decide (0xE1 ≤ x.toNat) && decide (x.toNat ≤ 0xEF)) = false := by simp; omega
  have e5 : (x.toNat == 0xF0) = false := by simp; omega
  have e6 : (decide (0xF1 ≤ x.toNat) && decide (x.toNat ≤ 0xF3)) = false := by simp; omega
  have e7 : (x.toNat == 0xF4) = false := by simp; omega
  simp only [e0, e1, e2, e3, e4, e5, e6, e7, if_false, Bool.false_eq_true]
theorem dec_2 {b : Array UInt8} {p : Nat} {x y : UInt8} {l : List UInt8} {out : List Nat} (h : Rest b p (x :: y :: l)) (h1 : 0xC2 ≤ x.toNat) (h2 : x.toNat ≤ 0xDF) (y1 : 0x80 ≤ y.toNat) (y2 : y.toNat ≤ 0xBF) (r : Dec b (p + 2) out) :
    Dec b p ((x.toNat % 32 * 64 + y.toNat % 64) :: out) := by
  refine .char (q := p + 1 + 1) (by rw [h.1, List.length_cons]; omega) ?_ (by omega) r
  have g1 : b[p + 1]? = some y := by rw [h.2 1]; rfl
  unfold Bytes.utf8At
  rw [h.getD]
  have e0 : ¬ x.toNat < 0x80 := by omega
  have e1 : (decide (0xC2 ≤ x.toNat) && decide (x.toNat ≤ 0xDF)) = true := by simp; omega
  simp [e0, e1, g1, y1, y2, List.range, List.range.loop, Except.bind]
theorem dec_3 {b : Array UInt8} {p : Nat} {x y z : UInt8} {l : List UInt8} {out : List Nat} (h : Rest b p (x :: y :: z :: l)) (hx : x.toNat = 0xE3) (y1 : 0x80 ≤ y.toNat) (y2 : y.toNat ≤ 0xBF) (z1 : 0x80 ≤ z.toNat) (z2 : z.toNat ≤ 0xBF) (r : Dec b (p + 3) out) :
    Dec b p (((3 * 64 + y.toNat % 64) * 64 + z.toNat % 64) :: out) := by
  refine .char (q := p + 2 + 1) (by rw [h.1, List.length_cons]; omega) ?_ (by omega) r
  have g1 : b[p + 1]? = some y := by rw [h.2 1]; rfl
  have g2 : b[p + 2]? = some z := by rw [h.2 2]; rfl
  unfold Bytes.utf8At
  rw [h.getD, hx]
  simp [g1, g2, y1, y2, z1, z2, List.range, List.range.loop, Except.bind]
theorem dec_4 {b : Array UInt8} {p : Nat} {x y z u : UInt8} {l : List UInt8} {out : List Nat} (h : Rest b p (x :: y :: z :: u :: l)) (hx : x.toNat = 0xF0) (y1 : 0x90 ≤ y.toNat) (y2 : y.toNat ≤ 0xBF) (z1 : 0x80 ≤ z.toNat) (z2 : z.toNat ≤ 0xBF) (u1 : 0x80 ≤ u.toNat) (u2 : u.toNat ≤ 0xBF) (r : Dec b (p + 4) out) :
    Dec b p ((((y.toNat % 64) * 64 + z.toNat % 64) * 64 + u.toNat % 64) :: out) := by
  refine .char (q := p + 3 + 1) (by rw [h.1, List.length_cons]; omega) ?_ (by omega) r
  have g1 : b[p + 1]? = some y := by rw [h.2 1]; rfl
  have g2 : b[p + 2]? = some z := by rw [h.2 2]; rfl
  have g3 : b[p + 3]? = some u := by rw [h.2 3]; rfl
  unfold Bytes.utf8At
  rw [h.getD, hx]
  simp [g1, g2, g3, y1, y2, z1, z2, u1, u2, List.range, List.range.loop, Except.bind]
theorem dec_cut {b : Array UInt8} {p : Nat} {x : UInt8} {l : List UInt8} (h : Rest b p (x :: l)) (he : Bytes.utf8At b p = (.bad p b.size "unexpected end of data", b.size)) : Dec b p [0xFFFD] :=
  .bad (p' := p) (q := b.size) (q' := b.size) (why := "unexpected end of data") (by rw [h.1, List.length_cons]; omega) he (by rw [h.1, List.length_cons]; omega) (Nat.le_refl _) (by decide) (.stop (Nat.le_refl _))
theorem cut_21 {b : Array UInt8} {p : Nat} {x : UInt8} (h : Rest b p [x]) (h1 : 0xC2 ≤ x.toNat) (h2 : x.toNat ≤ 0xDF) : Dec b p [0xFFFD] := by
  refine dec_cut h ?_
  have g1 : b[p + 1]? = none := by rw [h.2 1]; rfl
  unfold Bytes.utf8At
  rw [h.getD]
  have e0 : ¬ x.toNat < 0x80 := by omega
  have e1 : (decide (0xC2 ≤ x.toNat) && decide (x.toNat ≤ 0xDF)) = true := by simp; omega
  simp [e0, e1, g1, List.range, List.range.loop, Except.bind]
theorem cut_31 {b : Array UInt8} {p : Nat} {x : UInt8} (h : Rest b p [x]) (hx : x.toNat = 0xE3) : Dec b p [0xFFFD] := by
  refine dec_cut h ?_
  have g1 : b[p + 1]? = none := by rw [h.2 1]; rfl
  unfold Bytes.utf8At
  rw [h.getD, hx]
  simp [g1, List.range, List.range.loop, Except.bind]
theorem cut_32 {b : Array UInt8} {p : Nat} {x y : UInt8} (h : Rest b p [x, y]) (hx : x.toNat = 0xE3) (y1 : 0x80 ≤ y.toNat) (y2 : y.toNat ≤ 0xBF) : Dec b p [0xFFFD] := by
  refine dec_cut h ?_
  have g1 : b[p + 1]? = some y := by rw [h.2 1]; rfl
  have g2 : b[p + 2]? = none := by rw [h.2 2]; rfl
  unfold Bytes.utf8At
  rw [h.getD, hx]
  simp [g1, g2, y1, y2, List.range, List.range.loop, Except.bind]
theorem cut_41 {b : Array UInt8} {p : Nat} {x : UInt8} (h : Rest b p [x]) (hx : x.toNat = 0xF0) : Dec b p [0xFFFD] := by
  refine dec_cut h ?_
  have g1 : b[p + 1]? = none := by rw [h.2 1]; rfl
  unfold Bytes.utf8At
  rw [h.getD, hx]
  simp [g1, List.range, List.range.loop, Except.bind]
theorem cut_42 {b : Array UInt8} {p : Nat} {x y : UInt8} (h : Rest b p [x, y]) (hx : x.toNat = 0xF0) (y1 : 0x90 ≤ y.toNat) (y2 : y.toNat ≤ 0xBF) : Dec b p [0xFFFD] := by
  refine dec_cut h ?_
  have g1 : b[p + 1]? = some y := by rw [h.2 1]; rfl
  have g2 : b[p + 2]? = none := by rw [h.2 2]; rfl
  unfold Bytes.utf8At
  rw [h.getD, hx]
  simp [g1, g2, y1, y2, List.range, List.range.loop, Except.bind]
theorem cut_43 {b : Array UInt8} {p : Nat} {x y z : UInt8} (h : Rest b p [x, y, z]) (hx : x.toNat = 0xF0) (y1 : 0x90 ≤ y.toNat) (y2 : y.toNat ≤ 0xBF) (z1 : 0x80 ≤ z.toNat) (z2 : z.toNat ≤ 0xBF) : Dec b p [0xFFFD] := by
  refine dec_cut h ?_
  have g1 : b[p + 1]? = some y := by rw [h.2 1]; rfl
  have g2 : b[p + 2]? = some z := by rw [h.2 2]; rfl
  have g3 : b[p + 3]? = none := by rw [h.2 3]; rfl
  unfold Bytes.utf8At
  rw [h.getD, hx]
  simp [g1, g2, g3, y1, y2, z1, z2, List.range, List.range.loop, Except.bind]
end Mine
end P1Part

/-! P2 -/
section P2Part
open PySem PySem.W PyProof.Rows PySem.Builtin
namespace Mine
/-- the stray signs of one point -/
def gr (z : Int) (i : Nat) : List Nat := (octs (bsOf z + i)).map sN
theorem gr_1_0 : (gr 1 0).map oct = [48] := by decide +kernel
theorem gr_1_1 : (gr 1 1).map oct = [49] := by decide +kernel
theorem gr_1_2 : (gr 1 2).map oct = [50] := by decide +kernel
theorem gr_1_3 : (gr 1 3).map oct = [51] := by decide +kernel
theorem gr_1_4 : (gr 1 4).map oct = [52] := by decide +kernel
theorem gr_1_5 : (gr 1 5).map oct = [53] := by decide +kernel
theorem gr_2_0 : (gr 2 0).map oct = [215, 144] := by decide +kernel
theorem gr_2_1 : (gr 2 1).map oct = [215, 145] := by decide +kernel
theorem gr_2_2 : (gr 2 2).map oct = [215, 146] := by decide +kernel
theorem gr_2_3 : (gr 2 3).map oct = [215, 147] := by decide +kernel
theorem gr_2_4 : (gr 2 4).map oct = [215, 148] := by decide +kernel
theorem gr_2_5 : (gr 2 5).map oct = [215, 149] := by decide +kernel
theorem gr_3_0 : (gr 3 0).map oct = [227, 129, 130] := by decide +kernel
theorem gr_3_1 : (gr 3 1).map oct = [227, 129, 131] := by decide +kernel
theorem gr_3_2 : (gr 3 2).map oct = [227, 129, 132] := by decide +kernel
theorem gr_3_3 : (gr 3 3).map oct = [227, 129, 133] := by decide +kernel
theorem gr_3_4 : (gr 3 4).map oct = [227, 129, 134] := by decide +kernel
theorem gr_3_5 : (gr 3 5).map oct = [227, 129, 135] := by decide +kernel
theorem gr_4_0 : (gr 4 0).map oct = [240, 159, 152, 128] := by decide +kernel
theorem gr_4_1 : (gr 4 1).map oct = [240, 159, 152, 129] := by decide +kernel
theorem gr_4_2 : (gr 4 2).map oct = [240, 159, 152, 130] := by decide +kernel
theorem gr_4_3 : (gr 4 3).map oct = [240, 159, 152, 131] := by decide +kernel
theorem gr_4_4 : (gr 4 4).map oct = [240, 159, 152, 132] := by decide +kernel
theorem gr_4_5 : (gr 4 5).map oct = [240, 159, 152, 133] := by decide +kernel
theorem whole_1 {b : Array UInt8} {p i : Nat} {l : List UInt8} {out : List Nat} (hi : i < 6) (h : Rest b p ((gr 1 i).map oct ++ l)) (r : Dec b (p + 1) out) : Dec b p ((bsOf 1 + i).toNat :: out) := by
  obtain rfl | rfl | rfl | rfl | rfl | rfl : i = 0 ∨ i = 1 ∨ i = 2 ∨ i = 3 ∨ i = 4 ∨ i = 5 := by omega
  · rw [gr_1_0] at h; exact dec_1 h (by decide) r
  · rw [gr_1_1] at h; exact dec_1 h (by decide) r
  · rw [gr_1_2] at h; exact dec_1 h (by decide) r
  · rw [gr_1_3] at h; exact dec_1 h (by decide) r
  · rw [gr_1_4] at h; exact dec_1 h (by decide) r
  · rw [gr_1_5] at h; exact dec_1 h (by decide) r
theorem whole_2 {b : Array UInt8} {p i : Nat} {l : List UInt8} {out : List Nat} (hi : i < 6) (h : Rest b p ((gr 2 i).map oct ++ l)) (r : Dec b (p + 2) out) : Dec b p ((bsOf 2 + i).toNat :: out) := by
  obtain rfl | rfl | rfl | rfl | rfl | rfl : i = 0 ∨ i = 1 ∨ i = 2 ∨ i = 3 ∨ i = 4 ∨ i = 5 := by omega
  · rw [gr_2_0] at h; exact dec_2 h (by decide) (by decide) (by decide) (by decide) r
  · rw [gr_2_1] at h; exact dec_2 h (by decide) (by decide) (by decide) (by decide) r
  · rw [gr_2_2] at h; exact dec_2 h (by decide) (by decide) (by decide) (by decide) r
  · rw [gr_2_3] at h; exact dec_2 h (by decide) (by decide) (by decide) (by decide) r
  · rw [gr_2_4] at h; exact dec_2 h (by decide) (by decide) (by decide) (by decide) r
  · rw [gr_2_5] at h; exact dec_2 h (by decide) (by decide) (by decide) (by decide) r
theorem whole_3 {b : Array UInt8} {p i : Nat} {l : List UInt8} {out : List Nat} (hi : i < 6) (h : Rest b p ((gr 3 i).map oct ++ l)) (r : Dec b (p + 3) out) : Dec b p ((bsOf 3 + i).toNat :: out) := by
  obtain rfl | rfl | rfl | rfl | rfl | rfl : i = 0 ∨ i = 1 ∨ i = 2 ∨ i = 3 ∨ i = 4 ∨ i = 5 := by omega
  · rw [gr_3_0] at h; exact dec_3 h (by decide) (by decide) (by decide) (by decide) (by decide) r
  · rw [gr_3_1] at h; exact dec_3 h (by decide) (by decide) (by decide) (by decide) (by decide) r
  · rw [gr_3_2] at h; exact dec_3 h (by decide) (by decide) (by decide) (by decide) (by decide) r
  · rw [gr_3_3] at h; exact dec_3 h (by decide) (by decide) (by decide) (by decide) (by decide) r
  · rw [gr_3_4] at h; exact dec_3 h (by decide) (by decide) (by decide) (by decide) (by decide) r
  · rw [gr_3_5] at h; exact dec_3 h (by decide) (by decide) (by decide) (by decide) (by decide) r
theorem whole_4 {b : Array UInt8} {p i : Nat} {l : List UInt8} {out : List Nat} (hi : i < 6) (h : Rest b p ((gr 4 i).map oct ++ l)) (r : Dec b (p + 4) out) : Dec b p ((bsOf 4 + i).toNat :: out) := by
  obtain rfl | rfl | rfl | rfl | rfl | rfl : i = 0 ∨ i = 1 ∨ i = 2 ∨ i = 3 ∨ i = 4 ∨ i = 5 := by omega
  · rw [gr_4_0] at h; exact dec_4 h (by decide) (by decide) (by decide) (by decide) (by decide) (by decide) (by decide) r
  · rw [gr_4_1] at h; exact dec_4 h (by decide) (by decide) (by decide) (by decide) (by decide) (by decide) (by decide) r
  · rw [gr_4_2] at h; exact dec_4 h (by decide) (by decide) (by decide) (by decide) (by decide) (by decide) (by decide) r
  · rw [gr_4_3] at h; exact dec_4 h (by decide) (by decide) (by decide) (by decide) (by decide) (by decide) (by decide) r
  · rw [gr_4_4] at h; exact dec_4 h (by decide) (by decide) (by decide) (by decide) (by decide) (by decide) (by decide) r
  · rw [gr_4_5] at h; exact dec_4 h (by decide) (by decide) (by decide) (by decide) (by decide) (by decide) (by decide) r
theorem part_2_1 {b : Array UInt8} {p i : Nat} (hi : i < 6) (h : Rest b p (((gr 2 i).map oct).take 1)) : Dec b p [0xFFFD] := by
  obtain rfl | rfl | rfl | rfl | rfl | rfl : i = 0 ∨ i = 1 ∨ i = 2 ∨ i = 3 ∨ i = 4 ∨ i = 5 := by omega
  · rw [gr_2_0] at h; exact cut_21 h (by decide) (by decide)
  · rw [gr_2_1] at h; exact cut_21 h (by decide) (by decide)
  · rw [gr_2_2] at h; exact cut_21 h (by decide) (by decide)
  · rw [gr_2_3] at h; exact cut_21 h (by decide) (by decide)
  · rw [gr_2_4] at h; exact cut_21 h (by decide) (by decide)
  · rw [gr_2_5] at h; exact cut_21 h (by decide) (by decide)
theorem tail_2_1 {b : Array UInt8} {p i : Nat} {l : List UInt8} {out : List Nat} (hi : i < 6) (h : Rest b p (((gr 2 i).map oct).drop 1 ++ l)) (r : Dec b (p + 1) out) : Dec b p (List.replicate 1 0xFFFD ++ out) := by
  obtain rfl | rfl | rfl | rfl | rfl | rfl : i = 0 ∨ i = 1 ∨ i = 2 ∨ i = 3 ∨ i = 4 ∨ i = 5 := by omega
  · rw [gr_2_0] at h; exact (dec_mark h (by decide) (by decide) r)
  · rw [gr_2_1] at h; exact (dec_mark h (by decide) (by decide) r)
  · rw [gr_2_2] at h; exact (dec_mark h (by decide) (by decide) r)
  · rw [gr_2_3] at h; exact (dec_mark h (by decide) (by decide) r)
  · rw [gr_2_4] at h; exact (dec_mark h (by decide) (by decide) r)
  · rw [gr_2_5] at h; exact (dec_mark h (by decide) (by decide) r)
theorem part_3_1 {b : Array UInt8} {p i : Nat} (hi : i < 6) (h : Rest b p (((gr 3 i).map oct).take 1)) : Dec b p [0xFFFD] := by
  obtain rfl | rfl | rfl | rfl | rfl | rfl : i = 0 ∨ i = 1 ∨ i = 2 ∨ i = 3 ∨ i = 4 ∨ i = 5 := by omega
  · rw [gr_3_0] at h; exact cut_31 h (by decide)
  · rw [gr_3_1] at h; exact cut_31 h (by decide)
  · rw [gr_3_2] at h; exact cut_31 h (by decide)
  · rw [gr_3_3] at h; exact cut_31 h (by decide)
  · rw [gr_3_4] at h; exact cut_31 h (by decide)
  · rw [gr_3_5] at h; exact cut_31 h (by decide)
theorem tail_3_1 {b : Array UInt8} {p i : Nat} {l : List UInt8} {out : List Nat} (hi : i < 6) (h : Rest b p (((gr 3 i).map oct).drop 1 ++ l)) (r : Dec b (p + 2) out) : Dec b p (List.replicate 2 0xFFFD ++ out) := by
  obtain rfl | rfl | rfl | rfl | rfl | rfl : i = 0 ∨ i = 1 ∨ i = 2 ∨ i = 3 ∨ i = 4 ∨ i = 5 := by omega
  · rw [gr_3_0] at h; exact (dec_mark h (by decide) (by decide) (dec_mark h.next (by decide) (by decide) r))
  · rw [gr_3_1] at h; exact (dec_mark h (by decide) (by decide) (dec_mark h.next (by decide) (by decide) r))
  · rw [gr_3_2] at h; exact (dec_mark h (by decide) (by decide) (dec_mark h.next (by decide) (by decide) r))
  · rw [gr_3_3] at h; exact (dec_mark h (by decide) (by decide) (dec_mark h.next (by decide) (by decide) r))
  · rw [gr_3_4] at h; exact (dec_mark h (by decide) (by decide) (dec_mark h.next (by decide) (by decide) r))
  · rw [gr_3_5] at h; exact (dec_mark h (by decide) (by decide) (dec_mark h.next (by decide) (by decide) r))
theorem part_3_2 {b : Array UInt8} {p i : Nat} (hi : i < 6) (h : Rest b p (((gr 3 i).map oct).take 2)) : Dec b p [0xFFFD] := by
  obtain rfl | rfl | rfl | rfl | rfl | rfl : i = 0 ∨ i = 1 ∨ i = 2 ∨ i = 3 ∨ i = 4 ∨ i = 5 := by omega
  · rw [gr_3_0] at h; exact cut_32 h (by decide) (by decide) (by decide)
  · rw [gr_3_1] at h; exact cut_32 h (by decide) (by decide) (by decide)
  · rw [gr_3_2] at h; exact cut_32 h (by decide) (by decide) (by decide)
  · rw [gr_3_3] at h; exact cut_32 h (by decide) (by decide) (by decide)
  · rw [gr_3_4] at h; exact cut_32 h (by decide) (by decide) (by decide)
  · rw [gr_3_5] at h; exact cut_32 h (by decide) (by decide) (by decide)
theorem tail_3_2 {b : Array UInt8} {p i : Nat} {l : List UInt8} {out : List Nat} (hi : i < 6) (h : Rest b p (((gr 3 i).map oct).drop 2 ++ l)) (r : Dec b (p + 1) out) : Dec b p (List.replicate 1 0xFFFD ++ out) := by
  obtain rfl | rfl | rfl | rfl | rfl | rfl : i = 0 ∨ i = 1 ∨ i = 2 ∨ i = 3 ∨ i = 4 ∨ i = 5 := by omega
  · rw [gr_3_0] at h; exact (dec_mark h (by decide) (by decide) r)
  · rw [gr_3_1] at h; exact (dec_mark h (by decide) (by decide) r)
  · rw [gr_3_2] at h; exact (dec_mark h (by decide) (by decide) r)
  · rw [gr_3_3] at h; exact (dec_mark h (by decide) (by decide) r)
  · rw [gr_3_4] at h; exact (dec_mark h (by decide) (by decide) r)
  · rw [gr_3_5] at h; exact (dec_mark h (by decide) (by decide) r)
theorem part_4_1 {b : Array UInt8} {p i : Nat} (hi : i < 6) (h : Rest b p (((gr 4 i).map oct).take 1)) : Dec b p [0xFFFD] := by
  obtain rfl | rfl | rfl | rfl | rfl | rfl : i = 0 ∨ i = 1 ∨ i = 2 ∨ i = 3 ∨ i = 4 ∨ i = 5 := by omega
  · rw [gr_4_0] at h; exact cut_41 h (by decide)
  · rw [gr_4_1] at h; exact cut_41 h (by decide)
  · rw [gr_4_2] at h; exact cut_41 h (by decide)
  · rw [gr_4_3] at h; exact cut_41 h (by decide)
  · rw [gr_4_4] at h; exact cut_41 h (by decide)
  · rw [gr_4_5] at h; exact cut_41 h (by decide)
theorem tail_4_1 {b : Array UInt8} {p i : Nat} {l : List UInt8} {out : List Nat} (hi : i < 6) (h : Rest b p (((gr 4 i).map oct).drop 1 ++ l)) (r : Dec b (p + 3) out) : Dec b p (List.replicate 3 0xFFFD ++ out) := by
  obtain rfl | rfl | rfl | rfl | rfl | rfl : i = 0 ∨ i = 1 ∨ i = 2 ∨ i = 3 ∨ i = 4 ∨ i = 5 := by omega
  · rw [gr_4_0] at h; exact (dec_mark h (by decide) (by decide) (dec_mark h.next (by decide) (by decide) (dec_mark h.next.next (by decide) (by decide) r)))
  · rw [gr_4_1] at h; exact (dec_mark h (by decide) (by decide) (dec_mark h.next (by decide) (by decide) (dec_mark h.next.next (by decide) (by decide) r)))
  · rw [gr_4_2] at h; exact (dec_mark h (by decide) (by decide) (dec_mark h.next (by decide) (by decide) (dec_mark h.next.next (by decide) (by decide) r)))
  · rw [gr_4_3] at h; exact (dec_mark h (by decide) (by decide) (dec_mark h.next (by decide) (by decide) (dec_mark h.next.next (by decide) (by decide) r)))
  · rw [gr_4_4] at h; exact (dec_mark h (by decide) (by decide) (dec_mark h.next (by decide) (by decide) (dec_mark h.next.next (by decide) (by decide) r)))
  · rw [gr_4_5] at h; exact (dec_mark h (by decide) (by decide) (dec_mark h.next (by decide) (by decide) (dec_mark h.next.next (by decide) (by decide) r)))
theorem part_4_2 {b : Array UInt8} {p i : Nat} (hi : i < 6) (h : Rest b p (((gr 4 i).map oct).take 2)) : Dec b p [0xFFFD] := by
  obtain rfl | rfl | rfl | rfl | rfl | rfl : i = 0 ∨ i = 1 ∨ i = 2 ∨ i = 3 ∨ i = 4 ∨ i = 5 := by omega
  · rw [gr_4_0] at h; exact cut_42 h (by decide) (by decide) (by decide)
  · rw [gr_4_1] at h; exact cut_42 h (by decide) (by decide) (by decide)
  · rw [gr_4_2] at h; exact cut_42 h (by decide) (by decide) (by decide)
  · rw [gr_4_3] at h; exact cut_42 h (by decide) (by decide) (by decide)
  · rw [gr_4_4] at h; exact cut_42 h (by decide) (by decide) (by decide)
  · rw [gr_4_5] at h; exact cut_42 h (by decide) (by decide) (by decide)
theorem tail_4_2 {b : Array UInt8} {p i : Nat} {l : List UInt8} {out : List Nat} (hi : i < 6) (h : Rest b p (((gr 4 i).map oct).drop 2 ++ l)) (r : Dec b (p + 2) out) : Dec b p (List.replicate 2 0xFFFD ++ out) := by
  obtain rfl | rfl | rfl | rfl | rfl | rfl : i = 0 ∨ i = 1 ∨ i = 2 ∨ i = 3 ∨ i = 4 ∨ i = 5 := by omega
  · rw [gr_4_0] at h; exact (dec_mark h (by decide) (by decide) (dec_mark h.next (by decide) (by decide) r))
  · rw [gr_4_1] at h; exact (dec_mark h (by decide) (by decide) (dec_mark h.next (by decide) (by decide) r))
  · rw [gr_4_2] at h; exact (dec_mark h (by decide) (by decide) (dec_mark h.next (by decide) (by decide) r))
  · rw [gr_4_3] at h; exact (dec_mark h (by decide) (by decide) (dec_mark h.next (by decide) (by decide) r))
  · rw [gr_4_4] at h; exact (dec_mark h (by decide) (by decide) (dec_mark h.next (by decide) (by decide) r))
  · rw [gr_4_5] at h; exact (dec_mark h (by decide) (by decide) (dec_mark h.next (by decide) (by decide) r))
theorem part_4_3 {b : Array UInt8} {p i : Nat} (hi : i < 6) (h : Rest b p (((gr 4 i).map oct).take 3)) : Dec b p [0xFFFD] := by
  obtain rfl | rfl | rfl | rfl | rfl | rfl : i = 0 ∨ i = 1 ∨ i = 2 ∨ i = 3 ∨ i = 4 ∨ i = 5 := by omega
  · rw [gr_4_0] at h; exact cut_43 h (by decide) (by decide) (by decide) (by decide) (by decide)
  · rw [gr_4_1] at h; exact cut_43 h (by decide) (by decide) (by decide) (by decide) (by decide)
  · rw [gr_4_2] at h; exact cut_43 h (by decide) (by decide) (by decide) (by decide) (by decide)
  · rw [gr_4_3] at h; exact cut_43 h (by decide) (by decide) (by decide) (by decide) (by decide)
  · rw [gr_4_4] at h; exact cut_43 h (by decide) (by decide) (by decide) (by decide) (by decide)
  · rw [gr_4_5] at h; exact cut_43 h (by decide) (by decide) (by decide) (by decide) (by decide)
theorem tail_4_3 {b : Array UInt8} {p i : Nat} {l : List UInt8} {out : List Nat} (hi : i < 6) (h : Rest b p (((gr 4 i).map oct).drop 3 ++ l)) (r : Dec b (p + 1) out) : Dec b p (List.replicate 1 0xFFFD ++ out) := by
  obtain rfl | rfl | rfl | rfl | rfl | rfl : i = 0 ∨ i = 1 ∨ i = 2 ∨ i = 3 ∨ i = 4 ∨ i = 5 := by omega
  · rw [gr_4_0] at h; exact (dec_mark h (by decide) (by decide) r)
  · rw [gr_4_1] at h; exact (dec_mark h (by decide) (by decide) r)
  · rw [gr_4_2] at h; exact (dec_mark h (by decide) (by decide) r)
  · rw [gr_4_3] at h; exact (dec_mark h (by decide) (by decide) r)
  · rw [gr_4_4] at h; exact (dec_mark h (by decide) (by decide) r)
  · rw [gr_4_5] at h; exact (dec_mark h (by decide) (by decide) r)
end Mine
end P2Part

/-! P3 -/
section P3Part
open PySem PySem.W PyProof.Rows PySem.Builtin
namespace Mine
noncomputable def ssFrom (i : Nat) (zs : List Int) : List Nat := ((ptsFrom i zs).flatMap octs).map sN
theorem ssFrom_cons (i : Nat) (z : Int) (zs : List Int) : ssFrom i (z :: zs) = gr z i ++ ssFrom (i + 1) zs := by
  simp [ssFrom, gr, ptsFrom]
def Ok (i : Nat) (zs : List Int) : Prop := i + zs.length ≤ 6 ∧ ∀ k ∈ zs, 1 ≤ k ∧ k ≤ 4
theorem Ok.next {i : Nat} {z : Int} {zs : List Int} (h : Ok i (z :: zs)) : Ok (i + 1) zs := ⟨by have := h.1; simp at this; omega, fun k hk => h.2 k (List.mem_cons_of_mem _ hk)⟩
theorem Ok.head {i : Nat} {z : Int} {zs : List Int} (h : Ok i (z :: zs)) : i < 6 ∧ (z = 1 ∨ z = 2 ∨ z = 3 ∨ z = 4) := by
  have h1 := h.1
  have h2 := h.2 z List.mem_cons_self
  simp at h1
  exact ⟨by omega, by omega⟩
theorem gr_len {z : Int} {i : Nat} (hi : i < 6) (hz : z = 1 ∨ z = 2 ∨ z = 3 ∨ z = 4) : (gr z i).length = z.toNat := by
  obtain rfl | rfl | rfl | rfl | rfl | rfl : i = 0 ∨ i = 1 ∨ i = 2 ∨ i = 3 ∨ i = 4 ∨ i = 5 := by omega
  all_goals (rcases hz with rfl | rfl | rfl | rfl <;> decide +kernel)
theorem gr_sign {z : Int} {i : Nat} (hi : i < 6) (hz : z = 1 ∨ z = 2 ∨ z = 3 ∨ z = 4) : ∀ c ∈ gr z i, c < 128 ∨ (0xDC80 ≤ c ∧ c ≤ 0xDCFF) := by
  obtain rfl | rfl | rfl | rfl | rfl | rfl : i = 0 ∨ i = 1 ∨ i = 2 ∨ i = 3 ∨ i = 4 ∨ i = 5 := by omega
  all_goals (rcases hz with rfl | rfl | rfl | rfl <;> decide +kernel)
theorem whole {b : Array UInt8} {p i : Nat} {z : Int} {l : List UInt8} {out : List Nat} (hi : i < 6) (hz : z = 1 ∨ z = 2 ∨ z = 3 ∨ z = 4) (h : Rest b p ((gr z i).map oct ++ l)) (r : Dec b (p + z.toNat) out) : Dec b p ((bsOf z + i).toNat :: out) := by
  rcases hz with rfl | rfl | rfl | rfl
  · exact whole_1 hi h r
  · exact whole_2 hi h r
  · exact whole_3 hi h r
  · exact whole_4 hi h r
theorem dec_all : ∀ (zs : List Int) (i : Nat) {b : Array UInt8} {p : Nat}, Ok i zs → Rest b p ((ssFrom i zs).map oct) → Dec b p ((ptsFrom i zs).map Int.toNat)
  | [], i, b, p, _, h => dec_end h
  | z :: zs, i, b, p, ho, h => by
    rw [ssFrom_cons, List.map_append] at h
    refine whole ho.head.1 ho.head.2 h (dec_all zs (i + 1) ho.next ?_)
    have := h.skip
    rwa [List.length_map, gr_len ho.head.1 ho.head.2] at this
theorem sum_len : ∀ (zs : List Int) (i : Nat), Ok i zs → ((ssFrom i zs).length : Int) = zs.sum
  | [], _, _ => rfl
  | z :: zs, i, ho => by
    rw [ssFrom_cons, List.length_append, gr_len ho.head.1 ho.head.2, List.sum_cons, ← sum_len zs (i + 1) ho.next]
    have := ho.head.2
    omega
theorem sign_all : ∀ (zs : List Int) (i : Nat), Ok i zs → ∀ c ∈ ssFrom i zs, c < 128 ∨ (0xDC80 ≤ c ∧ c ≤ 0xDCFF)
  | [], _, _, c, hc => by cases hc
  | z :: zs, i, ho, c, hc => by
    rw [ssFrom_cons] at hc
    rcases List.mem_append.mp hc with hc | hc
    · exact gr_sign ho.head.1 ho.head.2 c hc
    · exact sign_all zs (i + 1) ho.next c hc
/-- what the two halves of a row give -/
noncomputable def hv : Nat → List Int → Nat → List Nat × List Nat
  | _, [], _ => ([], [])
  | i, z :: zs, c => if z.toNat ≤ c then ((bsOf z + i).toNat :: (hv (i + 1) zs (c - z.toNat)).1, (hv (i + 1) zs (c - z.toNat)).2)
    else if c = 0 then ([], (bsOf z + i).toNat :: (ptsFrom (i + 1) zs).map Int.toNat) else ([0xFFFD], List.replicate (z.toNat - c) 0xFFFD ++ (ptsFrom (i + 1) zs).map Int.toNat)
theorem part {b : Array UInt8} {p i c : Nat} {z : Int} (hi : i < 6) (hz : z = 1 ∨ z = 2 ∨ z = 3 ∨ z = 4) (h0 : c ≠ 0) (h1 : c < z.toNat) (h : Rest b p (((gr z i).map oct).take c)) : Dec b p [0xFFFD] := by
  rcases hz with rfl | rfl | rfl | rfl
  · exfalso; change c < 1 at h1; omega
  · obtain rfl : c = 1 := by change c < 2 at h1; omega
    exact part_2_1 hi h
  · obtain rfl | rfl : c = 1 ∨ c = 2 := by change c < 3 at h1; omega
    · exact part_3_1 hi h
    · exact part_3_2 hi h
  · obtain rfl | rfl | rfl : c = 1 ∨ c = 2 ∨ c = 3 := by change c < 4 at h1; omega
    · exact part_4_1 hi h
    · exact part_4_2 hi h
    · exact part_4_3 hi h
theorem tail {b : Array UInt8} {p i c : Nat} {z : Int} {l : List UInt8} {out : List Nat} (hi : i < 6) (hz : z = 1 ∨ z = 2 ∨ z = 3 ∨ z = 4) (h0 : c ≠ 0) (h1 : c < z.toNat) (h : Rest b p (((gr z i).map oct).drop c ++ l)) (r : Dec b (p + (z.toNat - c)) out) : Dec b p (List.replicate (z.toNat - c) 0xFFFD ++ out) := by
  rcases hz with rfl | rfl | rfl | rfl
  · exfalso; change c < 1 at h1; omega
  · obtain rfl : c = 1 := by change c < 2 at h1; omega
    exact tail_2_1 hi h r
  · obtain rfl | rfl : c = 1 ∨ c = 2 := by change c < 3 at h1; omega
    · exact tail_3_1 hi h r
    · exact tail_3_2 hi h r
  · obtain rfl | rfl | rfl : c = 1 ∨ c = 2 ∨ c = 3 := by change c < 4 at h1; omega
    · exact tail_4_1 hi h r
    · exact tail_4_2 hi h r
    · exact tail_4_3 hi h r
theorem dec_take : ∀ (zs : List Int) (i c : Nat) {b : Array UInt8} {p : Nat}, Ok i zs → Rest b p (((ssFrom i zs).take c).map oct) → Dec b p (hv i zs c).1
  | [], i, c, b, p, _, h => by
    have e : (ssFrom i []).take c = [] := by simp [ssFrom, ptsFrom]
    rw [e] at h
    exact dec_end h
  | z :: zs, i, c, b, p, ho, h => by
    have hg := gr_len ho.head.1 ho.head.2
    rw [ssFrom_cons] at h
    unfold hv
    by_cases hc : z.toNat ≤ c
    · rw [if_pos hc]
      rw [List.take_append, List.take_of_length_le (by omega), hg, List.map_append] at h
      refine whole ho.head.1 ho.head.2 h (dec_take zs (i + 1) _ ho.next ?_)
      have := h.skip
      rwa [List.length_map, hg] at this
    · rw [if_neg hc]
      rw [List.take_append, hg, show c - z.toNat = 0 by omega, List.take_zero, List.append_nil, List.map_take] at h
      by_cases h0 : c = 0
      · rw [if_pos h0]
        subst h0
        exact dec_end h
      · rw [if_neg h0]
        exact part ho.head.1 ho.head.2 h0 (by omega) h
theorem dec_drop : ∀ (zs : List Int) (i c : Nat) {b : Array UInt8} {p : Nat}, Ok i zs → Rest b p (((ssFrom i zs).drop c).map oct) → Dec b p (hv i zs c).2
  | [], i, c, b, p, _, h => by
    have e : (ssFrom i []).drop c = [] := by simp [ssFrom, ptsFrom]
    rw [e] at h
    exact dec_end h
  | z :: zs, i, c, b, p, ho, h => by
    have hg := gr_len ho.head.1 ho.head.2
    unfold hv
    by_cases hc : z.toNat ≤ c
    · rw [if_pos hc]
      rw [ssFrom_cons, List.drop_append, List.drop_of_length_le (by omega), hg, List.nil_append] at h
      exact dec_drop zs (i + 1) _ ho.next h
    · rw [if_neg hc]
      by_cases h0 : c = 0
      · rw [if_pos h0]
        subst h0
        exact dec_all (z :: zs) i ho h
      · rw [if_neg h0]
        rw [ssFrom_cons, List.drop_append, hg, show c - z.toNat = 0 by omega, List.drop_zero, List.map_append, List.map_drop] at h
        refine tail ho.head.1 ho.head.2 h0 (by omega) h (dec_all zs (i + 1) ho.next ?_)
        have := h.skip
        rwa [List.length_drop, List.length_map, hg] at this
end Mine
end P3Part

/-! P4 -/
section P4Part
open PySem PySem.W PyProof.Rows PySem.Builtin
namespace Mine
/-- the same rows over signs that are known by number alone -/
noncomputable def innerF (c : Nat) : List Nat → List Int → Int → Int → List Int
  | a :: as, r :: rs, d, res => min (min res r + 2) (d + (if c = a then 0 else 2)) :: innerF c as rs r (min (min res r + 2) (d + (if c = a then 0 else 2)))
  | _, _, _, _ => []
noncomputable def rowF (u v : List Nat) : Nat → List Int
  | 0 => rangeInts 2 2 u.length
  | j + 1 => innerF (v.getD j 0) u (rowF u v j) (j * 2) (j * 2)
noncomputable def levF (a b : List Nat) : Int := (rowF (sh a b) (lo a b) (lo a b).length).getLastD 0
noncomputable def fitsB (a b : List Nat) (mx : Int) : Bool := decide (a.length ≤ 40) && decide (b.length ≤ 40) && decide ((((lo a b).length : Int) - (sh a b).length) * 2 ≤ mx) &&
  (List.range (lo a b).length).all fun j => (rowF (sh a b) (lo a b) (j + 1)).any fun v => decide (v ≤ mx)
theorem inner_map (φ : Nat → Nat) (c : Nat) : ∀ (as : List Nat) (rs : List Int) (d r : Int), (∀ a ∈ as, cst (φ c) (φ a) = if c = a then 0 else 2) → inner (φ c) (as.map φ) rs d r = innerF c as rs d r
  | [], _, _, _, _ => by simp [inner, innerF]
  | _ :: _, [], _, _, _ => by simp [inner, innerF]
  | a :: as, r :: rs, d, res, h => by
    simp only [List.map_cons, inner, innerF]
    rw [h a List.mem_cons_self, inner_map φ c as rs _ _ fun a ha => h a (List.mem_cons_of_mem _ ha)]
theorem rowN_map (φ : Nat → Nat) (u v : List Nat) (h : ∀ c ∈ v, ∀ a ∈ u, cst (φ c) (φ a) = if c = a then 0 else 2) : ∀ j, j ≤ v.length → rowN (u.map φ) (v.map φ) j = rowF u v j
  | 0, _ => by simp [rowN, rowF]
  | j + 1, hj => by
    have e : (v.map φ).getD j 0 = φ (v.getD j 0) := by
      rw [List.getD_eq_getElem?_getD, List.getD_eq_getElem?_getD, List.getElem?_map, List.getElem?_eq_getElem (by omega)]
      rfl
    have hm : v.getD j 0 ∈ v := by
      rw [List.getD_eq_getElem?_getD, List.getElem?_eq_getElem (by omega)]
      exact List.getElem_mem _
    rw [rowN, rowF, e, rowN_map φ u v h j (by omega), inner_map φ _ u _ _ _ (h _ hm)]
theorem sh_map (φ : Nat → Nat) (a b : List Nat) : sh (a.map φ) (b.map φ) = (sh a b).map φ := by
  unfold sh
  rw [List.length_map, List.length_map]
  split <;> rfl
theorem lo_map (φ : Nat → Nat) (a b : List Nat) : lo (a.map φ) (b.map φ) = (lo a b).map φ := by
  unfold lo
  rw [List.length_map, List.length_map]
  split <;> rfl
theorem sh_mem {a b : List Nat} {x : Nat} (h : x ∈ sh a b) : x ∈ a ∨ x ∈ b := by
  unfold sh at h
  split at h
  · exact .inr h
  · exact .inl h
theorem lo_mem {a b : List Nat} {x : Nat} (h : x ∈ lo a b) : x ∈ a ∨ x ∈ b := by
  unfold lo at h
  split at h
  · exact .inl h
  · exact .inr h
/-- a way of naming that keeps the cost -/
def Fair (φ : Nat → Nat) (a b : List Nat) : Prop := ∀ c, c ∈ a ∨ c ∈ b → ∀ d, d ∈ a ∨ d ∈ b → cst (φ c) (φ d) = if c = d then 0 else 2
theorem lev_map {φ : Nat → Nat} {a b : List Nat} (h : Fair φ a b) (ha : a ≠ []) (hb : b ≠ []) : levR (a.map φ) (b.map φ) = levF a b := by
  unfold levR levF
  rw [if_neg (by simp [ha, hb]), sh_map, lo_map, List.length_map, rowN_map φ _ _ (fun c hc a ha => h c (lo_mem hc) a (sh_mem ha)) _ (Nat.le_refl _)]
theorem fits_map {φ : Nat → Nat} {a b : List Nat} {m mx : Int} (h : Fair φ a b) (hf : fitsB a b m = true) (hm : m ≤ mx) : Fits (a.map φ) (b.map φ) mx := by
  unfold fitsB at hf
  simp only [Bool.and_eq_true, decide_eq_true_eq, List.all_eq_true, List.any_eq_true, List.mem_range] at hf
  obtain ⟨⟨⟨h1, h2⟩, h3⟩, h4⟩ := hf
  unfold Fits
  rw [sh_map, lo_map, List.length_map, List.length_map, List.length_map, List.length_map]
  refine ⟨h1, h2, by omega, fun j hj => ?_⟩
  obtain ⟨v, hv, hv'⟩ := h4 j hj
  rw [rowN_map φ _ _ (fun c hc a ha => h c (lo_mem hc) a (sh_mem ha)) _ hj]
  exact ⟨v, hv, by omega⟩
/-- marks first, or marks last -/
def aF (k g : Nat) : List Nat := List.replicate k 0 ++ List.range' 2 g
def bF (j g : Nat) : List Nat := List.range' 1 g ++ List.replicate j 0
def dF (k j g : Nat) : Int := 2 * min ((k : Int) + j) ((g : Int) + max (g : Int) (((k : Int) - j).natAbs : Int))
theorem core_ab : ∀ k ∈ [2, 3, 4], ∀ j ∈ [2, 3, 4], ∀ g ∈ [1, 2, 3, 4, 5], levF (aF k g) (bF j g) = dF k j g ∧ fitsB (aF k g) (bF j g) (2 * ((k : Int) + j + g - 1)) = true := by decide +kernel
theorem core_ba : ∀ k ∈ [2, 3, 4], ∀ j ∈ [2, 3, 4], ∀ g ∈ [1, 2, 3, 4, 5], levF (bF j g) (aF k g) = dF k j g ∧ fitsB (bF j g) (aF k g) (2 * ((k : Int) + j + g - 1)) = true := by decide +kernel
theorem core_1 : ∀ k ∈ [2, 3, 4], levF [1] (List.replicate k 0) = 2 * k ∧ fitsB [1] (List.replicate k 0) (2 * k) = true ∧ levF (List.replicate k 0) [1] = 2 * k ∧ fitsB (List.replicate k 0) [1] (2 * k) = true := by decide +kernel
/-- the signs -/
def Sg (c : Nat) : Prop := c = 65533 ∨ ∃ z i, i < 6 ∧ (z = 1 ∨ z = 2 ∨ z = 3 ∨ z = 4) ∧ c = (bsOf z + (i : Nat)).toNat
def sgs : List Nat := [65533, 48, 49, 50, 51, 52, 53, 1488, 1489, 1490, 1491, 1492, 1493, 12354, 12355, 12356, 12357, 12358, 12359, 128512, 128513, 128514, 128515, 128516, 128517]
theorem sg_mem {c : Nat} (h : Sg c) : c ∈ sgs := by
  rcases h with rfl | ⟨z, i, hi, hz, rfl⟩
  · decide
  · obtain rfl | rfl | rfl | rfl | rfl | rfl : i = 0 ∨ i = 1 ∨ i = 2 ∨ i = 3 ∨ i = 4 ∨ i = 5 := by omega
    all_goals (rcases hz with rfl | rfl | rfl | rfl <;> decide)
theorem low_sgs : ∀ c ∈ sgs, (Txt.lower (tx [c])).cps.toList = [c] := by decide +kernel
theorem low_sg {c : Nat} (h : Sg c) : Txt.lower (tx [c]) = tx [c] := by
  have e := low_sgs c (sg_mem h)
  rw [tx_of (Txt.lower (tx [c])), e]
theorem cst_sg {c a : Nat} (hc : Sg c) (ha : Sg a) : cst c a = if c = a then 0 else 2 := by
  unfold cst subCost
  rw [low_sg hc, low_sg ha]
  by_cases h : c = a
  · simp [h]
  · have : (tx [c] == tx [a]) = false := by simpa using h
    rw [this, if_neg h]
    simp
theorem sg_small {c : Nat} (h : Sg c) : c < 0x110000 := by
  have h := sg_mem h
  have : ∀ c ∈ sgs, c < 0x110000 := by decide
  exact this c h
end Mine
end P4Part

/-! P5 -/
section P5Part
open PySem PySem.W PyProof.Rows PySem.Builtin
namespace Mine
/-- the row with k marks at its place p -/
def lm (T : List Nat) (p k : Nat) : List Nat := if k = 0 then T else T.take p ++ (List.replicate k 65533 ++ T.drop (p + 1))
theorem lm_cons (x : Nat) (T : List Nat) (p k : Nat) : lm (x :: T) (p + 1) k = x :: lm T p k := by
  unfold lm
  split <;> simp
theorem fold_mark (c : Nat) : ∀ (k : Nat) (a : Array Nat), (List.replicate k #[c]).foldl (· ++ ·) a = a ++ (List.replicate k c).toArray
  | 0, a => by simp
  | k + 1, a => by
    rw [List.replicate_succ, List.foldl_cons, fold_mark c k, List.replicate_succ]
    apply Array.ext'
    simp
theorem mul_mark {k : Nat} (hk : 2 ≤ k) (c : Nat) : Txt.mul (tx [c]) (k : Int) = tx (List.replicate k c) := by
  unfold Txt.mul
  have e1 : ¬ (k : Int) < 1 := by omega
  have e2 : (((k : Int) == 1) || (tx [c]).length == 0) = false := by
    rw [tx_len]
    simp
    omega
  rw [if_neg e1, e2, if_neg (by decide), Int.toNat_natCast]
  show Str.mk ((List.replicate k #[c]).foldl (· ++ ·) #[]) = _
  rw [fold_mark]
  simp
theorem meant_tx {T : List Nat} {p k : Nat} (hk : k = 0 ∨ (2 ≤ k ∧ p < T.length)) : meant (tx T) (p : Int) (k : Int) = tx (lm T p k) := by
  unfold meant lm
  rcases hk with rfl | ⟨hk, hp⟩
  · simp
  · rw [if_neg (by omega), if_neg (by omega)]
    have e1 := slice_to T p (by omega)
    have e2 := slice_from T (p + 1) (by omega)
    have e3 := mul_mark hk 65533
    rw [e1, show (p : Int) + 1 = ((p + 1 : Nat) : Int) by omega, e2]
    show tx _ ++ Txt.mul (tx [65533]) _ ++ tx _ = _
    rw [e3, tx_app, tx_app, List.append_assoc]
theorem cut_fact : ∀ (zs : List Int) (c : Int), (∀ z ∈ zs, 1 ≤ z ∧ z ≤ 4) → 0 ≤ c → ∃ p k : Nat, cutAt zs c = ((p : Int), (k : Int)) ∧ p ≤ zs.length ∧ (k = 0 ∨ (2 ≤ k ∧ k ≤ 4 ∧ p < zs.length ∧ (k : Int) ≤ zs.getD p 0))
  | [], _, _, _ => ⟨0, 0, rfl, Nat.le_refl _, .inl rfl⟩
  | z :: zs, c, h, hc => by
    have hz := h z List.mem_cons_self
    unfold cutAt
    by_cases h1 : z ≤ c
    · rw [if_pos h1]
      obtain ⟨p, k, e, hp, hk⟩ := cut_fact zs (c - z) (fun y hy => h y (List.mem_cons_of_mem _ hy)) (by omega)
      refine ⟨p + 1, k, ?_, by simp; omega, ?_⟩
      · rw [e]
        simp only [Prod.mk.injEq, and_true]
        omega
      · rcases hk with hk | ⟨a, b, c, d⟩
        · exact .inl hk
        · exact .inr ⟨a, b, by simp; omega, by simpa using d⟩
    · rw [if_neg h1]
      by_cases h2 : c = 0
      · rw [if_pos h2]
        exact ⟨0, 0, rfl, Nat.zero_le _, .inl rfl⟩
      · rw [if_neg h2]
        refine ⟨0, (1 + z - c).toNat, ?_, Nat.zero_le _, .inr ⟨by omega, by omega, by simp, ?_⟩⟩
        · simp only [Prod.mk.injEq]
          omega
        · simp only [List.getD_cons_zero]
          omega
theorem hv_join : ∀ (zs : List Int) (i c : Nat), Ok i zs → (hv i zs c).1 ++ (hv i zs c).2 = lm ((ptsFrom i zs).map Int.toNat) (cutAt zs (c : Int)).1.toNat (cutAt zs (c : Int)).2.toNat
  | [], i, c, _ => by simp [hv, ptsFrom, cutAt, lm]
  | z :: zs, i, c, ho => by
    have hz := ho.head.2
    unfold hv cutAt
    by_cases h1 : z.toNat ≤ c
    · have h1' : z ≤ (c : Int) := by omega
      rw [if_pos h1, if_pos h1']
      have e : (c : Int) - z = ((c - z.toNat : Nat) : Int) := by omega
      rw [e]
      obtain ⟨p, k, e, hp, hk⟩ := cut_fact zs ((c - z.toNat : Nat) : Int) ho.next.2 (by omega)
      have ih := hv_join zs (i + 1) (c - z.toNat) ho.next
      rw [e] at ih ⊢
      simp only [Int.toNat_natCast] at ih
      have e2 : (1 + (p : Int)).toNat = p + 1 := by omega
      simp only [ptsFrom, List.map_cons, Int.toNat_natCast, e2, lm_cons, List.cons_append, ih]
    · have h1' : ¬ z ≤ (c : Int) := by omega
      rw [if_neg h1, if_neg h1']
      by_cases h0 : c = 0
      · rw [if_pos h0, if_pos (by omega)]
        simp [ptsFrom, lm]
      · rw [if_neg h0, if_neg (by omega)]
        have e2 : (1 + z - (c : Int)).toNat = (z.toNat - c) + 1 := by omega
        simp only [e2, lm, ptsFrom]
        rw [if_neg (by omega)]
        simp [List.replicate_succ]
theorem sizes_ok {zs : List Int} (h : Sizes zs) : Ok 0 zs := ⟨by have := h.2.1; omega, h.2.2⟩
theorem sum_le4 : ∀ (zs : List Int), (∀ z ∈ zs, 1 ≤ z ∧ z ≤ 4) → zs.sum ≤ 4 * zs.length
  | [], _ => by simp
  | z :: zs, h => by
    have := h z List.mem_cons_self
    have := sum_le4 zs fun y hy => h y (List.mem_cons_of_mem _ hy)
    simp only [List.sum_cons, List.length_cons]
    omega
theorem sum_ge : ∀ (zs : List Int), (∀ z ∈ zs, 1 ≤ z ∧ z ≤ 4) → (zs.length : Int) ≤ zs.sum
  | [], _ => by simp
  | z :: zs, h => by
    have := h z List.mem_cons_self
    have := sum_ge zs fun y hy => h y (List.mem_cons_of_mem _ hy)
    simp only [List.sum_cons, List.length_cons]
    omega
theorem sum_one : ∀ (zs : List Int) (p : Nat), (∀ z ∈ zs, 1 ≤ z ∧ z ≤ 4) → p < zs.length → zs.getD p 0 + zs.length - 1 ≤ zs.sum
  | [], _, _, h => by simp at h
  | z :: zs, 0, h, _ => by
    have := sum_ge zs fun y hy => h y (List.mem_cons_of_mem _ hy)
    simp only [List.sum_cons, List.length_cons, List.getD_cons_zero]
    omega
  | z :: zs, p + 1, h, hp => by
    have := h z List.mem_cons_self
    have := sum_one zs p (fun y hy => h y (List.mem_cons_of_mem _ hy)) (by simpa using hp)
    simp only [List.sum_cons, List.length_cons, List.getD_cons_succ]
    omega
theorem sum_two : ∀ (zs : List Int) (p q : Nat), (∀ z ∈ zs, 1 ≤ z ∧ z ≤ 4) → p < q → q < zs.length → zs.getD p 0 + zs.getD q 0 + zs.length - 2 ≤ zs.sum
  | [], _, _, _, _, h => by simp at h
  | z :: zs, 0, q + 1, h, _, hq => by
    have := sum_one zs q (fun y hy => h y (List.mem_cons_of_mem _ hy)) (by simpa using hq)
    simp only [List.sum_cons, List.length_cons, List.getD_cons_zero, List.getD_cons_succ]
    omega
  | z :: zs, p + 1, q + 1, h, hpq, hq => by
    have := h z List.mem_cons_self
    have := sum_two zs p q (fun y hy => h y (List.mem_cons_of_mem _ hy)) (by omega) (by simpa using hq)
    simp only [List.sum_cons, List.length_cons, List.getD_cons_succ]
    omega
theorem ss_len {zs : List Int} (h : Sizes zs) : ((ssOf zs).length : Int) = zs.sum := sum_len zs 0 (sizes_ok h)
theorem ss_max {zs : List Int} (h : Sizes zs) : (ssOf zs).length ≤ 24 := by
  have := ss_len h
  have := sum_le4 zs h.2.2
  have := h.2.1
  omega
theorem ss_sign {zs : List Int} (h : Sizes zs) : ∀ c ∈ ssOf zs, c < 128 ∨ (0xDC80 ≤ c ∧ c ≤ 0xDCFF) := sign_all zs 0 (sizes_ok h)
theorem cut_bd {zs : List Int} (h : Sizes zs) {c : Nat} (hc : c ≤ (ssOf zs).length) : 0 ≤ (cutAt zs c).1 ∧ (cutAt zs c).1 ≤ 6 ∧ 0 ≤ (cutAt zs c).2 ∧ (cutAt zs c).2 ≤ 4 := by
  obtain ⟨p, k, e, hp, hk⟩ := cut_fact zs (c : Int) h.2.2 (by omega)
  have := h.2.1
  rw [e]
  dsimp only
  omega
theorem txt_len (zs : List Int) : (txtOf zs).length = zs.length := by
  unfold txtOf
  rw [List.length_map, pts_len]
theorem meant_lm {zs : List Int} (h : Sizes zs) (c : Nat) : meant (tx (txtOf zs)) (cutAt zs c).1 (cutAt zs c).2 = tx (lm (txtOf zs) (cutAt zs (c : Int)).1.toNat (cutAt zs (c : Int)).2.toNat) := by
  obtain ⟨p, k, e, hp, hk⟩ := cut_fact zs (c : Int) h.2.2 (by omega)
  rw [e]
  refine meant_tx ?_
  rw [txt_len]
  omega
theorem halves {zs : List Int} (h : Sizes zs) {c : Nat} (hc : c ≤ (ssOf zs).length) : ∃ o1 o2, Dec (((ssOf zs).take c).map oct).toArray 0 o1 ∧ Dec (((ssOf zs).drop c).map oct).toArray 0 o2 ∧ meant (tx (txtOf zs)) (cutAt zs c).1 (cutAt zs c).2 = tx (o1 ++ o2) :=
  ⟨(hv 0 zs c).1, (hv 0 zs c).2, dec_take zs 0 c (sizes_ok h) (Rest.start _), dec_drop zs 0 c (sizes_ok h) (Rest.start _), by
    rw [meant_lm h, hv_join zs 0 c (sizes_ok h)]; rfl⟩
theorem pts_get : ∀ (zs : List Int) (i j : Nat), j < zs.length → ((ptsFrom i zs).map Int.toNat).getD j 0 = (bsOf (zs.getD j 0) + ((i + j : Nat) : Int)).toNat
  | [], _, _, h => by simp at h
  | z :: zs, i, 0, _ => by simp [ptsFrom]
  | z :: zs, i, j + 1, h => by
    have := pts_get zs (i + 1) j (by simpa using h)
    simp only [ptsFrom, List.map_cons, List.getD_cons_succ]
    rw [this]
    congr 3
    omega
theorem getD_size {zs : List Int} (h : Sizes zs) {j : Nat} (hj : j < zs.length) : zs.getD j 0 = 1 ∨ zs.getD j 0 = 2 ∨ zs.getD j 0 = 3 ∨ zs.getD j 0 = 4 := by
  have hm : zs.getD j 0 ∈ zs := by
    rw [List.getD_eq_getElem?_getD, List.getElem?_eq_getElem hj]
    exact List.getElem_mem _
  have := h.2.2 _ hm
  omega
theorem txt_get {zs : List Int} {j : Nat} (hj : j < zs.length) : (txtOf zs).getD j 0 = (bsOf (zs.getD j 0) + (j : Int)).toNat := by
  have := pts_get zs 0 j hj
  rw [Nat.zero_add] at this
  exact this
theorem txt_sg {zs : List Int} (h : Sizes zs) {j : Nat} (hj : j < zs.length) : Sg ((txtOf zs).getD j 0) :=
  .inr ⟨_, j, by have := h.2.1; omega, getD_size h hj, txt_get hj⟩
theorem txt_no {zs : List Int} (h : Sizes zs) {j : Nat} (hj : j < zs.length) : (txtOf zs).getD j 0 ≠ 65533 := by
  rw [txt_get hj]
  have := h.2.1
  rcases getD_size h hj with e | e | e | e <;> rw [e] <;> simp only [bsOf] <;> simp <;> omega
theorem txt_one {zs : List Int} (h : Sizes zs) {i j : Nat} (hi : i < zs.length) (hj : j < zs.length) (hne : i ≠ j) : (txtOf zs).getD i 0 ≠ (txtOf zs).getD j 0 := by
  rw [txt_get hj, txt_get hi]
  have := h.2.1
  rcases getD_size h hi with e | e | e | e <;> rw [e] <;> rcases getD_size h hj with e' | e' | e' | e' <;> rw [e'] <;> simp only [bsOf] <;> simp <;> omega
theorem lm_sg {zs : List Int} (h : Sizes zs) (p k : Nat) : ∀ c ∈ lm (txtOf zs) p k, Sg c := by
  have ht : ∀ c ∈ txtOf zs, Sg c := fun c hc => by
    obtain ⟨j, hj, rfl⟩ := List.mem_iff_getElem.mp hc
    have := txt_sg h (j := j) (by rw [txt_len] at hj; exact hj)
    rw [List.getD_eq_getElem?_getD, List.getElem?_eq_getElem hj] at this
    exact this
  intro c hc
  unfold lm at hc
  split at hc
  · exact ht c hc
  · rcases List.mem_append.mp hc with hc | hc
    · exact ht c (List.mem_of_mem_take hc)
    · rcases List.mem_append.mp hc with hc | hc
      · exact .inl (List.eq_of_mem_replicate hc)
      · exact ht c (List.mem_of_mem_drop hc)
theorem tx_inj {l k : List Nat} (h : tx l = tx k) : l = k := by
  have := congrArg (fun x => x.cps.toList) h
  simpa using this
theorem mean_ok {zs : List Int} (h : Sizes zs) {c : Nat} (hc : c ≤ (ssOf zs).length) {o : List Nat} (hA : meant (tx (txtOf zs)) (cutAt zs c).1 (cutAt zs c).2 = tx o) : PyData.strOk (tx o) = true := by
  rw [meant_lm h] at hA
  have := tx_inj hA
  subst this
  unfold PyData.strOk
  simp only [List.all_toArray, List.all_eq_true, decide_eq_true_eq]
  exact fun c hc => sg_small (lm_sg h _ _ c hc)
end Mine
end P5Part

/-! P6 -/
section P6Part
open PySem PySem.W PyProof.Rows PySem.Builtin
namespace Mine
/-- two rows, where they part, and what it costs to turn the one into the other -/
def Apart (Al Bl : List Nat) (mx D : Int) : Prop := ∃ P a2 b2 S, Al = P ++ (a2 ++ S) ∧ Bl = P ++ (b2 ++ S) ∧ Al.length ≤ 100 ∧ Bl.length ≤ 100 ∧ (a2 ++ S = [] ∨ b2 ++ S = [] ∨ (a2 ++ S).head? ≠ (b2 ++ S).head?) ∧ (a2 = [] ∨ b2 = [] ∨ a2.getLast? ≠ b2.getLast?) ∧
      (a2 ≠ [] → b2 ≠ [] → Fits a2 b2 mx) ∧ (if Al = Bl then 0 else levR a2 b2) = D
theorem apart_same {Al : List Nat} {mx D : Int} (hl : Al.length ≤ 100) (hD : D = 0) : Apart Al Al mx D :=
  ⟨Al, [], [], [], by simp, by simp, hl, hl, .inl rfl, .inl rfl, fun h => absurd rfl h, by rw [if_pos rfl, hD]⟩
theorem fair_ne {φ : Nat → Nat} {a b : List Nat} (F : Fair φ a b) {x y : Nat} (hx : x ∈ a ∨ x ∈ b) (hy : y ∈ a ∨ y ∈ b) (hne : x ≠ y) : φ x ≠ φ y := by
  intro e
  have h := F x hx y hy
  rw [if_neg hne, e] at h
  have h' := F y hy y hy
  rw [if_pos rfl, h] at h'
  exact absurd h' (by decide)
theorem apart_close {φ : Nat → Nat} {a b P S Al Bl : List Nat} {m mx D : Int} {x y x' y' : Nat} (hA : Al = P ++ (a.map φ ++ S)) (hB : Bl = P ++ (b.map φ ++ S)) (hla : Al.length ≤ 100) (hlb : Bl.length ≤ 100)
    (F : Fair φ a b) (hx : a.head? = some x) (hy : b.head? = some y) (hne : x ≠ y) (hx' : a.getLast? = some x') (hy' : b.getLast? = some y') (hne' : x' ≠ y') (hf : fitsB a b m = true) (hm : m ≤ mx) (hD : levF a b = D) : Apart Al Bl mx D := by
  have hxa : x ∈ a := List.mem_of_mem_head? hx
  have hyb : y ∈ b := List.mem_of_mem_head? hy
  have hxa' : x' ∈ a := List.mem_of_getLast? hx'
  have hyb' : y' ∈ b := List.mem_of_getLast? hy'
  have ha : a ≠ [] := by rintro rfl; cases hxa
  have hb : b ≠ [] := by rintro rfl; cases hyb
  have n1 := fair_ne F (.inl hxa) (.inr hyb) hne
  have n2 := fair_ne F (.inl hxa') (.inr hyb') hne'
  have hh : (a.map φ ++ S).head? ≠ (b.map φ ++ S).head? := by
    rw [List.head?_append, List.head?_append, List.head?_map, List.head?_map, hx, hy]
    simpa using n1
  refine ⟨P, a.map φ, b.map φ, S, hA, hB, hla, hlb, .inr (.inr hh), .inr (.inr ?_), fun _ _ => fits_map F hf hm, ?_⟩
  · rw [List.getLast?_map, List.getLast?_map, hx', hy']
    simpa using n2
  · rw [if_neg, lev_map F ha hb, hD]
    intro e
    rw [hA, hB] at e
    exact hh (congrArg List.head? (List.append_cancel_left e))
/-- the name of a place behind p -/
def nm (T : List Nat) (p x : Nat) : Nat := if x = 0 then 65533 else T.getD (p + x - 1) 0
theorem nm_fair {zs : List Int} (h : Sizes zs) {p m : Nat} (hm : p + m ≤ zs.length) {a b : List Nat} (ha : ∀ x ∈ a, x ≤ m) (hb : ∀ x ∈ b, x ≤ m) : Fair (nm (txtOf zs) p) a b := by
  intro c hc d hd
  have hc : c ≤ m := hc.elim (ha c) (hb c)
  have hd : d ≤ m := hd.elim (ha d) (hb d)
  have hs : ∀ x, x ≤ m → Sg (nm (txtOf zs) p x) := fun x hx => by
    unfold nm
    split
    · exact .inl rfl
    · exact txt_sg h (by omega)
  rw [cst_sg (hs c hc) (hs d hd)]
  by_cases e : c = d
  · subst e; rw [if_pos rfl, if_pos rfl]
  · rw [if_neg e, if_neg]
    unfold nm
    split
    · rw [if_neg (by omega)]
      exact fun q => txt_no h (by omega) q.symm
    · split
      · exact txt_no h (by omega)
      · exact txt_one h (by omega) (by omega) (by omega)
theorem nm_marks (T : List Nat) (p k : Nat) : (List.replicate k 0).map (nm T p) = List.replicate k 65533 := by
  rw [List.map_replicate]
  rfl
theorem nm_row {T : List Nat} {p g s : Nat} (hs : 0 < s) (h : p + s - 1 + g ≤ T.length) : (List.range' s g).map (nm T p) = (T.drop (p + s - 1)).take g := by
  apply List.ext_getElem
  · simp; omega
  · intro i h1 h2
    simp only [List.length_map, List.length_range'] at h1
    simp only [List.getElem_map, List.getElem_range', List.getElem_take, List.getElem_drop, Nat.one_mul]
    unfold nm
    rw [if_neg (by omega), List.getD_eq_getElem?_getD, List.getElem?_eq_getElem (by omega)]
    simp only [Option.getD_some]
    congr 1
    omega
theorem lm_len {T : List Nat} {p k : Nat} (hp : p ≤ T.length) (hk : k ≤ 4) : (lm T p k).length ≤ T.length + 4 := by
  unfold lm
  split
  · omega
  · simp; omega
theorem aF_le {k g : Nat} : ∀ x ∈ aF k g, x ≤ g + 1 := by
  intro x hx
  unfold aF at hx
  rcases List.mem_append.mp hx with hx | hx
  · rw [List.eq_of_mem_replicate hx]; omega
  · rw [List.mem_range'_1] at hx; omega
theorem bF_le {k g : Nat} : ∀ x ∈ bF k g, x ≤ g + 1 := by
  intro x hx
  unfold bF at hx
  rcases List.mem_append.mp hx with hx | hx
  · rw [List.mem_range'_1] at hx; omega
  · rw [List.eq_of_mem_replicate hx]; omega
theorem aF_head {k g : Nat} (hk : 0 < k) : (aF k g).head? = some 0 := by
  obtain ⟨k, rfl⟩ : ∃ i, k = i + 1 := ⟨k - 1, by omega⟩
  rfl
theorem bF_head {k g : Nat} (hg : 0 < g) : (bF k g).head? = some 1 := by
  obtain ⟨g, rfl⟩ : ∃ i, g = i + 1 := ⟨g - 1, by omega⟩
  rfl
theorem aF_last {k g : Nat} (hg : 0 < g) : (aF k g).getLast? = some (g + 1) := by
  obtain ⟨g, rfl⟩ : ∃ i, g = i + 1 := ⟨g - 1, by omega⟩
  unfold aF
  rw [List.range'_concat, ← List.append_assoc, List.getLast?_concat]
  congr 1
  omega
theorem bF_last {k g : Nat} (hk : 0 < k) : (bF k g).getLast? = some 0 := by
  obtain ⟨k, rfl⟩ : ∃ i, k = i + 1 := ⟨k - 1, by omega⟩
  unfold bF
  rw [List.replicate_succ', ← List.append_assoc, List.getLast?_concat]
theorem mem_k {k : Nat} (h : 2 ≤ k ∧ k ≤ 4) : k ∈ [2, 3, 4] := by
  obtain rfl | rfl | rfl : k = 2 ∨ k = 3 ∨ k = 4 := by omega
  all_goals decide
theorem mem_g {k : Nat} (h : 1 ≤ k ∧ k ≤ 5) : k ∈ [1, 2, 3, 4, 5] := by
  obtain rfl | rfl | rfl | rfl | rfl : k = 1 ∨ k = 2 ∨ k = 3 ∨ k = 4 ∨ k = 5 := by omega
  all_goals decide
/-- both cuts lie within signs, the one before the other -/
theorem lm_ab {zs : List Int} {p q k j : Nat} (hk : 2 ≤ k) (hj : 2 ≤ j) (hpq : p < q) (hq : q < zs.length) :
    lm (txtOf zs) p k = (txtOf zs).take p ++ ((aF k (q - p)).map (nm (txtOf zs) p) ++ (txtOf zs).drop (q + 1)) ∧
    lm (txtOf zs) q j = (txtOf zs).take p ++ ((bF j (q - p)).map (nm (txtOf zs) p) ++ (txtOf zs).drop (q + 1)) := by
  have hl := txt_len zs
  generalize txtOf zs = T at *
  constructor
  · unfold lm aF
    rw [if_neg (by omega), List.map_append, nm_marks, nm_row (by omega) (by omega), show p + 2 - 1 = p + 1 by omega, List.append_assoc]
    congr 2
    have e : T.drop (q + 1) = (T.drop (p + 1)).drop (q - p) := by rw [List.drop_drop]; congr 1; omega
    rw [e, List.take_append_drop]
  · unfold lm bF
    rw [if_neg (by omega), List.map_append, nm_marks, nm_row (by omega) (by omega), show p + 1 - 1 = p by omega]
    have e : T.take q = T.take p ++ (T.drop p).take (q - p) := by
      rw [← List.take_add]; congr 1; omega
    rw [e]
    simp only [List.append_assoc]
theorem lm_1 {zs : List Int} {q j : Nat} (hj : 2 ≤ j) (hq : q < zs.length) :
    txtOf zs = (txtOf zs).take q ++ ([1].map (nm (txtOf zs) q) ++ (txtOf zs).drop (q + 1)) ∧
    lm (txtOf zs) q j = (txtOf zs).take q ++ ((List.replicate j 0).map (nm (txtOf zs) q) ++ (txtOf zs).drop (q + 1)) := by
  have hl := txt_len zs
  generalize txtOf zs = T at *
  constructor
  · have e : [1].map (nm T q) = (T.drop q).take 1 := by
      have := nm_row (T := T) (p := q) (g := 1) (s := 1) (by omega) (by omega)
      rw [show q + 1 - 1 = q by omega] at this
      exact this
    have e2 : T.drop (q + 1) = (T.drop q).drop 1 := by rw [List.drop_drop]
    rw [e, e2, List.take_append_drop, List.take_append_drop]
  · unfold lm
    rw [if_neg (by omega), nm_marks]
theorem one_le {j m : Nat} (hm : 1 ≤ m) : ∀ x ∈ List.replicate j 0, x ≤ m := fun x hx => by rw [List.eq_of_mem_replicate hx]; omega
theorem rep_head {j : Nat} (h : 0 < j) : (List.replicate j 0).head? = some 0 := by
  obtain ⟨k, rfl⟩ : ∃ i, j = i + 1 := ⟨j - 1, by omega⟩
  rfl
theorem rep_last {j : Nat} (h : 0 < j) : (List.replicate j 0).getLast? = some 0 := by
  obtain ⟨k, rfl⟩ : ∃ i, j = i + 1 := ⟨j - 1, by omega⟩
  rw [List.replicate_succ', List.getLast?_concat]
/-- the same place, unlike marks -/
theorem apart_row {zs : List Int} (h : Sizes zs) {p k j : Nat} (hp : p < zs.length) (hk : 2 ≤ k) (hkj : k < j) (hj : j ≤ 4) (mx : Int) :
    Apart (lm (txtOf zs) p k) (lm (txtOf zs) p j) mx (2 * ((j : Int) - k)) ∧ Apart (lm (txtOf zs) p j) (lm (txtOf zs) p k) mx (2 * ((j : Int) - k)) := by
  have hl := txt_len zs
  have l1 := lm_len (T := txtOf zs) (p := p) (k := k) (by omega) (by omega)
  have l2 := lm_len (T := txtOf zs) (p := p) (k := j) (by omega) (by omega)
  have h6 := h.2.1
  have hn : ∀ i, p + 1 ≤ i → i < zs.length → (txtOf zs).getD i 0 ≠ 65533 := fun i _ hi => txt_no h hi
  have eA : lm (txtOf zs) p k = ((txtOf zs).take p ++ List.replicate k 65533) ++ ([] ++ (txtOf zs).drop (p + 1)) := by
    unfold lm
    rw [if_neg (by omega)]
    simp
  have eB : lm (txtOf zs) p j = ((txtOf zs).take p ++ List.replicate k 65533) ++ (List.replicate (j - k) 65533 ++ (txtOf zs).drop (p + 1)) := by
    unfold lm
    have e : List.replicate j 65533 = List.replicate k 65533 ++ List.replicate (j - k) 65533 := by
      rw [List.replicate_append_replicate]; congr 1; omega
    rw [if_neg (by omega), e]
    simp only [List.append_assoc]
  have hne : lm (txtOf zs) p k ≠ lm (txtOf zs) p j := by
    intro e
    rw [eA, eB] at e
    have := congrArg List.length e
    simp at this
    omega
  have hh : (txtOf zs).drop (p + 1) = [] ∨ ((txtOf zs).drop (p + 1)).head? ≠ (List.replicate (j - k) 65533 ++ (txtOf zs).drop (p + 1)).head? := by
    by_cases hq : p + 1 < zs.length
    · refine .inr ?_
      obtain ⟨i, hi⟩ : ∃ i, j - k = i + 1 := ⟨j - k - 1, by omega⟩
      have := hn (p + 1) (by omega) hq
      rw [hi, List.replicate_succ, List.cons_append, List.head?_cons, List.head?_drop]
      rw [List.getD_eq_getElem?_getD, List.getElem?_eq_getElem (by omega)] at this
      rw [List.getElem?_eq_getElem (by omega)]
      simpa using this
    · exact .inl (List.drop_of_length_le (by omega))
  constructor
  · refine ⟨_, [], List.replicate (j - k) 65533, (txtOf zs).drop (p + 1), eA, eB, by omega, by omega, ?_, .inl rfl, fun q => absurd rfl q, ?_⟩
    · rcases hh with hh | hh
      · exact .inl (by simpa using hh)
      · exact .inr (.inr (by simpa using hh))
    · rw [if_neg hne]
      unfold levR
      rw [if_pos (.inl rfl)]
      simp
      omega
  · refine ⟨_, List.replicate (j - k) 65533, [], (txtOf zs).drop (p + 1), eB, eA, by omega, by omega, ?_, .inr (.inl rfl), fun _ q => absurd rfl q, ?_⟩
    · rcases hh with hh | hh
      · exact .inr (.inl (by simpa using hh))
      · exact .inr (.inr (by simpa using hh.symm))
    · rw [if_neg (fun q => hne q.symm)]
      unfold levR
      rw [if_pos (.inr rfl)]
      simp
      omega
theorem apart_all {zs : List Int} (h : Sizes zs) {p k q j : Nat} (hk : k = 0 ∨ (2 ≤ k ∧ k ≤ 4 ∧ p < zs.length ∧ (k : Int) ≤ zs.getD p 0)) (hj : j = 0 ∨ (2 ≤ j ∧ j ≤ 4 ∧ q < zs.length ∧ (j : Int) ≤ zs.getD q 0)) (hp : p ≤ zs.length) (hq : q ≤ zs.length) :
    Apart (lm (txtOf zs) p k) (lm (txtOf zs) q j) (2 * zs.sum) (dueOf p k q j) := by
  have hl := txt_len zs
  have l1 := lm_len (T := txtOf zs) (p := p) (k := k) (by omega) (by omega)
  have l2 := lm_len (T := txtOf zs) (p := q) (k := j) (by omega) (by omega)
  have h6 := h.2.1
  rcases hk with rfl | ⟨k2, k4, kp, kz⟩
  · rcases hj with rfl | ⟨j2, j4, jq, jz⟩
    · refine apart_same (Al := txtOf zs) (by omega) ?_
      unfold dueOf
      simp
      omega
    · obtain ⟨c1, c2, _, _⟩ := core_1 j (mem_k ⟨j2, j4⟩)
      obtain ⟨e1, e2⟩ := lm_1 (zs := zs) j2 jq
      have hs := sum_one zs q h.2.2 jq
      refine apart_close (a := [1]) (b := List.replicate j 0) (x := 1) (y := 0) (x' := 1) (y' := 0) e1 e2 (by omega) (by omega) (nm_fair h (m := 1) (by omega) (by simp) (one_le (by omega))) rfl (rep_head (by omega)) (by decide) rfl (rep_last (by omega)) (by decide) c2 (by omega) ?_
      rw [c1]
      unfold dueOf
      omega
  · rcases hj with rfl | ⟨j2, j4, jq, jz⟩
    · obtain ⟨_, _, c1, c2⟩ := core_1 k (mem_k ⟨k2, k4⟩)
      obtain ⟨e1, e2⟩ := lm_1 (zs := zs) k2 kp
      have hs := sum_one zs p h.2.2 kp
      refine apart_close (a := List.replicate k 0) (b := [1]) (x := 0) (y := 1) (x' := 0) (y' := 1) e2 e1 (by omega) (by omega) (nm_fair h (m := 1) (by omega) (one_le (by omega)) (by simp)) (rep_head (by omega)) rfl (by decide) (rep_last (by omega)) rfl (by decide) c2 (by omega) ?_
      rw [c1]
      unfold dueOf
      omega
    · rcases Nat.lt_trichotomy p q with hpq | rfl | hpq
      · obtain ⟨e1, e2⟩ := lm_ab (zs := zs) k2 j2 hpq jq
        obtain ⟨c1, c2⟩ := core_ab k (mem_k ⟨k2, k4⟩) j (mem_k ⟨j2, j4⟩) (q - p) (mem_g (by omega))
        have hs := sum_two zs p q h.2.2 hpq jq
        refine apart_close e1 e2 (by omega) (by omega) (nm_fair h (m := q - p + 1) (by omega) aF_le bF_le) (aF_head (by omega)) (bF_head (by omega)) (by decide) (aF_last (by omega)) (bF_last (by omega)) (by omega) c2 (by omega) ?_
        rw [c1]
        unfold dueOf dF
        omega
      · rcases Nat.lt_trichotomy k j with hkj | rfl | hkj
        · have := (apart_row h kp k2 hkj j4 (2 * zs.sum)).1
          have e : 2 * ((j : Int) - k) = dueOf p k p j := by unfold dueOf; omega
          rwa [e] at this
        · refine apart_same (by omega) ?_
          unfold dueOf
          omega
        · have := (apart_row h kp j2 hkj k4 (2 * zs.sum)).2
          have e : 2 * ((k : Int) - j) = dueOf p k p j := by unfold dueOf; omega
          rwa [e] at this
      · obtain ⟨e1, e2⟩ := lm_ab (zs := zs) j2 k2 hpq kp
        obtain ⟨c1, c2⟩ := core_ba j (mem_k ⟨j2, j4⟩) k (mem_k ⟨k2, k4⟩) (p - q) (mem_g (by omega))
        have hs := sum_two zs q p h.2.2 hpq kp
        refine apart_close e2 e1 (by omega) (by omega) (nm_fair h (m := p - q + 1) (by omega) bF_le aF_le) (bF_head (by omega)) (aF_head (by omega)) (by decide) (bF_last (by omega)) (aF_last (by omega)) (by omega) c2 (by omega) ?_
        rw [c1]
        unfold dueOf dF
        omega
/-- how far the two are apart -/
theorem apart {zs : List Int} (h : Sizes zs) {c d : Nat} (hc : c ≤ (ssOf zs).length) (hd : d ≤ (ssOf zs).length) {Al Bl : List Nat}
    (hA : meant (tx (txtOf zs)) (cutAt zs c).1 (cutAt zs c).2 = tx Al) (hB : meant (tx (txtOf zs)) (cutAt zs d).1 (cutAt zs d).2 = tx Bl) :
    ∃ P a2 b2 S, Al = P ++ (a2 ++ S) ∧ Bl = P ++ (b2 ++ S) ∧ Al.length ≤ 100 ∧ Bl.length ≤ 100 ∧ (a2 ++ S = [] ∨ b2 ++ S = [] ∨ (a2 ++ S).head? ≠ (b2 ++ S).head?) ∧ (a2 = [] ∨ b2 = [] ∨ a2.getLast? ≠ b2.getLast?) ∧
      (a2 ≠ [] → b2 ≠ [] → Fits a2 b2 (2 * ((ssOf zs).length : Int))) ∧ (if Al = Bl then 0 else levR a2 b2) = dueOf (cutAt zs c).1 (cutAt zs c).2 (cutAt zs d).1 (cutAt zs d).2 := by
  rw [meant_lm h] at hA hB
  have hA := tx_inj hA
  have hB := tx_inj hB
  subst hA hB
  rw [ss_len h]
  obtain ⟨p, k, e, hp, hk⟩ := cut_fact zs (c : Int) h.2.2 (by omega)
  obtain ⟨q, j, e', hq, hj⟩ := cut_fact zs (d : Int) h.2.2 (by omega)
  rw [e, e']
  exact apart_all h hk hj hp hq
end Mine
end P6Part

/-! C6 -/
section C6Part
open PySem PySem.W PyProof.Rows
namespace Mine
theorem fill7 : PySem.Challenge.rw_pg0076_01.prog = PySem.Challenge.rw_pg0076_01.prog ∧ hd.heap_39 = hd.heap_39 := by
  k_fill
  exact ⟨rfl, rfl⟩
local macro_rules | `(tactic| walk_at "Back") => `(tactic| fail "at the end")
local macro_rules | `(tactic| walk_at "mine step") => `(tactic| first | (k_unfold; (try dsimp only)) | walk1 | (dsimp only; walk1) | (leave1; walk_say "STEP leave1"; try dsimp only) | fail "no step")
local macro_rules | `(tactic| walk_at "mine steps c") => `(tactic| repeat' ((fail_if_success (with_reducible show wpAny _ _ (exec (Stmt.Assign _ (Expr.ListComp _ _ _ _) _) _) _ _ _)); (fail_if_success (with_reducible show wpAny _ _ (eval (Expr.ListComp _ _ _ _) _) _ _ _)); (fail_if_success (with_reducible show wpAny _ _ (call (Value.ref _) _) _ _ _)); (fail_if_success (with_reducible show wpAny _ _ (exec (Stmt.For _ _ _ _ _) _) _ _ _)); walk_at "mine step"))
local macro_rules | `(tactic| walk_at "mine steps e") => `(tactic| repeat' ((fail_if_success (with_reducible show wpAny _ _ (call (Value.type _) _) _ _ _)); walk_at "mine step"))
local macro_rules | `(tactic| walk_at "mine steps f") => `(tactic| repeat' ((fail_if_success (with_reducible show wpAny _ _ (call (Value.builtin "len") _) _ _ _)); (fail_if_success (with_reducible show wpAny _ _ (exec (Stmt.Assign _ (Expr.ListComp _ _ _ _) _) _) _ _ _)); (fail_if_success (with_reducible show wpAny _ _ (eval (Expr.ListComp _ _ _ _) _) _ _ _)); (fail_if_success (with_reducible show wpAny _ _ (call (Value.ref _) _) _ _ _)); walk_at "mine step"))
local macro_rules | `(tactic| walk_at "mine steps g") => `(tactic| repeat' ((fail_if_success (with_reducible show wpAny _ _ (eval (Expr.Subscript _ _ _) _) _ _ _)); (fail_if_success (with_reducible show wpAny _ _ (call (Value.builtin "str.join") _) _ _ _)); (fail_if_success (with_reducible show wpAny _ _ (call (Value.ref _) _) _ _ _)); walk_at "mine step"))
set_option maxRecDepth 100000 in
set_option maxHeartbeats 4000000 in
theorem apart_call {w : World} {A : Around} {s : Shared} {Q E : Value → Shared → Prop} (C : Cx w A s 50 500) {l : Addr} {vs : List Value} {ns : List Int}
    (hl : s.heap.IsList l vs.toArray) (hi : IntsAre vs ns) (hn : 0 < ns.length ∧ ns.length ≤ 6) (hp : ∀ n ∈ ns, 0 ≤ n ∧ n < 10 ^ 6)
    (hQ : ∀ h' tk, Keeps' s.heap h' → Q (.bool true) { s with heap := h', toks := tk }) :
    wpAny (model PR w) A (call (.ref 66) [.ref l]) Q E s := by
  refine' enterC [(Str.ofString "numbers", .ref l)] (d := 49) (u := 497) C ?k6 ?k7 ?k9 ?kB ?kD ?_ ?c2 ?c3 ?c4
  case k6 => k_is
  case k7 => k_is
  case k9 => exact BindsTo.of_eq rfl
  case kB => exact rfl
  case kD => decide +kernel
  case c2 => exact rfl
  case c3 => exact rfl
  case c4 => exact rfl
  k_whole
  intro dp un gd env outer base L' h' tk' cells' pp loose mean mg mb F' N' Y' B' X' T' hdp hun
  obtain ⟨oc, hE, d1⟩ := CellsAre.one Y'
  subst hE
  clear Y'
  replace d1 : _ = Data.cell none := d1
  obtain ⟨m₀, F⟩ : ∃ m₀ : Str → Option Value, Fr s.heap L' h' (fun y => if y = Str.ofString "numbers" then some (.ref l) else m₀ y) := ⟨_, frPick _ F' rfl⟩
  clear F'
  (try dsimp only)
  (try k_fold)
  walk_at "mine steps c"
  rename Fr _ _ _ _ => F
  rename News _ _ _ _ => N
  refine Assign_one (cl := []) (items := vs) (fun v y => ∃ n t t', v = .int n t ∧ y = .int (n % 4 + 1) t') rfl F N (hl.at fun o e => F.keep _ o e) ?_ ?_ ?_ ?_ ?_ ?_ ?_ ?_ ?_ ?_ ?_ ?_ ?_
  · intro Q' hq
    walk_at "mine step"
    exact hq
  · rw [hi.length]; omega
  · intro C₃ v s₃ m₃ hC hv hns hm hk
    obtain ⟨p, t, rfl, hpp⟩ := ints_mem hi v hv
    have FC : Fr s.heap C₃ s₃.heap m₃ := ⟨hns, fun b o e => hk b o (F.keep b o e), Nat.le_trans (Nat.le_of_lt (Nat.lt_of_le_of_lt F.above F.ns.lt)) hC⟩
    clear F N
    refine wpAny_mono (Q := fun r s₄ => Stop ((∃ t', r = .int (p % 4 + 1) t') ∧ Keeps s₃ s₄)) ?_ (fun r s₄ q => ?_) (fun _ _ f => f)
    · walk_at "mine steps c"
      refine ⟨?_, _, _, rfl, fun _ _ e => e⟩
      rw [fmd p 4 (by decide)]
      exact ⟨_, rfl⟩
    · obtain ⟨⟨t', e⟩, q2⟩ := q; exact ⟨⟨p, t, t', rfl, e⟩, q2⟩
  · clear F N
    intro D h₁ tk₁ c ys F N hP
    replace F : Fr s.heap L' _ _ := F
    replace N : News s.heap L' _ _ := N
    dsimp only
    have hzs := sz_ints hi hP
    have hszn : ∀ k ∈ ns.map szOf, 1 ≤ k ∧ k ≤ 4 := by
      intro k hk
      obtain ⟨n, _, rfl⟩ := List.mem_map.mp hk
      unfold szOf
      omega
    have hDl : h₁.IsList D ys.toArray := ⟨_, News.get N List.mem_cons_self, rfl, c, rfl⟩
    have hyl : ys.length ≤ 6 := by rw [hzs.length, List.length_map]; exact hn.2
    clear hP
    walk_at "mine steps c"
    refine Assign_enum (cl := []) (items := ys) (ax := D) (fun i v y => ∃ k t t', v = .int k t ∧ y = .int (bsOf k + i) t') rfl F N hDl ?_ ?_ ?_ ?_ ?_ ?_ ?_ ?_ ?_ ?_ ?_ ?_ ?_ ?_ ?_
    · intro Q' hq
      walk_at "mine steps e"
      refine call_enumerate_1 (News.get N List.mem_cons_self) fun h₅ h5a h5b h5c h5d => ?_
      exact hq _ _ _ _ (Nat.succ_ne_self _) (Heap.get?_none_of_le (Nat.le_succ _)) (Heap.get?_none_of_le (Nat.le_refl _)) h5a h5b h5d (by rw [h5c]; exact Nat.le_add_right _ 2)
    · omega
    · intro C₃ i v t₀ s₃ m₃ hC hv hns hm hm' hk
      obtain ⟨k, t, rfl, hkk⟩ := ints_mem hzs v (List.mem_of_getElem? hv)
      have hkb := hszn k hkk
      have FC : Fr s.heap C₃ s₃.heap m₃ := ⟨hns, fun b o e => hk b o (F.keep b o e), Nat.le_trans (Nat.le_of_lt (Nat.lt_of_le_of_lt F.above F.ns.lt)) hC⟩
      clear F N
      refine wpAny_mono (Q := fun r s₄ => Stop ((∃ t', r = .int (bsOf k + i) t') ∧ Keeps s₃ s₄)) ?_ (fun r s₄ q => ?_) (fun _ _ f => f)
      · walk_at "mine steps c"
        refine wpAny_newObj_type ?_
        dsimp only
        have kp : ∀ b o, s₃.heap.get? b = some o → (s₃.heap.push { cls := .type "list", data := .seq #[Value.int 48 s₃.toks, Value.int 1488 (s₃.toks + 1), Value.int 12354 (s₃.toks + 1 + 1), Value.int 128512 (s₃.toks + 1 + 1 + 1)] }).get? b = some o := fun b o q => Heap.get?_push_of_some _ q
        have FD := Fr.keeps FC kp
        have ND : News s.heap C₃ (s₃.heap.push { cls := .type "list", data := .seq #[Value.int 48 s₃.toks, Value.int 1488 (s₃.toks + 1), Value.int 12354 (s₃.toks + 1 + 1), Value.int 128512 (s₃.toks + 1 + 1 + 1)] }) [(s₃.heap.objs.size, listOf #[Value.int 48 s₃.toks, Value.int 1488 (s₃.toks + 1), Value.int 12354 (s₃.toks + 1 + 1), Value.int 128512 (s₃.toks + 1 + 1 + 1)] 0)] := by
          intro p hp
          rw [List.mem_singleton.mp hp]
          refine ⟨Heap.get?_push_size _ rfl, Nat.ne_of_gt hns.lt, Heap.get?_none_of_le (Nat.le_trans FC.above (Nat.le_of_lt hns.lt))⟩
        clear FC
        replace hns := FD.ns
        generalize (s₃.heap.push { cls := .type "list", data := .seq #[Value.int 48 s₃.toks, Value.int 1488 (s₃.toks + 1), Value.int 12354 (s₃.toks + 1 + 1), Value.int 128512 (s₃.toks + 1 + 1 + 1)] }) = g at *
        obtain rfl | rfl | rfl | rfl : k = 1 ∨ k = 2 ∨ k = 3 ∨ k = 4 := by omega
        all_goals walk_at "mine steps c"
        all_goals (
          refine ⟨?_, _, _, rfl, kp⟩
          exact ⟨_, rfl⟩)
      · obtain ⟨⟨t', e⟩, q2⟩ := q; exact ⟨⟨k, t, t', rfl, e⟩, q2⟩
    · clear F N
      intro D₂ h₂ tk₂ c₂ ys₂ F N hP
      replace F : Fr s.heap L' _ _ := F
      replace N : News s.heap L' _ _ := N
      dsimp only
      have hps := pts_ints hzs 0 hP.1 (by intro j v r h1 h2; obtain ⟨k, t, t', a, b⟩ := hP.2 j v r h1 h2; exact ⟨k, t, t', a, by rw [b]; simp⟩)
      have hD₂l : h₂.IsList D₂ ys₂.toArray := ⟨_, News.get N List.mem_cons_self, rfl, c₂, rfl⟩
      have hy2l : ys₂.length ≤ 6 := by rw [hP.1]; exact hyl
      have hpb : ∀ p ∈ ptsFrom 0 (ns.map szOf), 48 ≤ p ∧ p < 128600 := pts_bd _ 0 (by rw [← hzs.length]; omega)
      clear hP
      walk_at "mine steps c"
      refine Comp_one (cl := []) (items := ys₂) (ax := D₂) (fun v y => ∃ k t t', v = .int k t ∧ y = .str ⟨#[k.toNat]⟩ t') rfl F N hD₂l ?_ ?_ ?_ ?_ ?_ ?_ ?_ ?_ ?_ ?_
      · intro Q' hq
        walk_at "mine step"
        exact hq
      · omega
      · intro C₃ v s₃ m₃ hC hv hns hm hk
        obtain ⟨k, t, rfl, hkk⟩ := ints_mem hps v hv
        have hb := hpb k hkk
        have FC : Fr s.heap C₃ s₃.heap m₃ := ⟨hns, fun b o e => hk b o (F.keep b o e), Nat.le_trans (Nat.le_of_lt (Nat.lt_of_le_of_lt F.above F.ns.lt)) hC⟩
        clear F N
        refine wpAny_mono (Q := fun r s₄ => Stop ((∃ t', r = .str ⟨#[k.toNat]⟩ t') ∧ Keeps s₃ s₄)) ?_ (fun r s₄ q => ?_) (fun _ _ f => f)
        · walk_at "mine steps c"
          exact ⟨⟨_, rfl⟩, _, _, rfl, fun _ _ e => e⟩
        · obtain ⟨⟨t', e⟩, q2⟩ := q; exact ⟨⟨k, t, t', rfl, e⟩, q2⟩
      · clear F N
        intro D₃ h₃ tk₃ c₃ ys₃ F N hP
        replace F : Fr s.heap L' _ _ := F
        replace N : News s.heap L' _ _ := N
        dsimp only
        have hts := chr_strs hps hP
        clear hP
        have hD₃l : h₃.IsList D₃ ys₃.toArray := ⟨_, News.get N List.mem_cons_self, rfl, c₃, rfl⟩
        walk_at "mine steps c"
        refine join_call (l := (ptsFrom 0 (ns.map szOf)).map Int.toNat) hD₃l (by rw [List.map_map]; exact hts) (by rw [List.length_map, ← hps.length]; omega) fun t₅ k₅ => ?_
        (try dsimp only)
        walk_at "mine steps c"
        rename Fr _ _ _ _ => F
        rename News _ _ _ _ => N
        refine strays_call (ps := ptsFrom 0 (ns.map szOf)) (Cx.of B' F X' T' rfl rfl rfl (by show _ + 1 + 30 < recursionLimit; dsimp only; omega) (by show _ + 3 + 300 < cLine; dsimp only; omega) rfl) ⟨_, News.get N (.tail _ (.head _)), rfl, c₂, rfl⟩ hps (by rw [← hps.length]; omega) (fun p hp => by have := hpb p hp; omega) ?_
        intro h₆ tk₆ r₆ us c₆ k₆ hn₆ hg₆ hs₆
        dsimp only at k₆ hn₆
        have F₆ := frExt F k₆
        have N₆ := newsPut F N k₆ hn₆ hg₆
        have h1 : ∀ p ∈ [(r₆, listOf us.toArray c₆), (D₃, listOf ys₃.toArray c₃), (D₂, listOf ys₂.toArray c₂), (D, listOf ys.toArray c)], p.1 ≠ L' + 1 := by
          intro p hp
          have hc : (L' + 1, oc) ∈ [(r₆, listOf us.toArray c₆), (D₃, listOf ys₃.toArray c₃), (D₂, listOf ys₂.toArray c₂), (D, listOf ys.toArray c), (L' + 1, oc)] := .tail _ (.tail _ (.tail _ (.tail _ (.head _))))
          have hp' : p ∈ [(r₆, listOf us.toArray c₆), (D₃, listOf ys₃.toArray c₃), (D₂, listOf ys₂.toArray c₂), (D, listOf ys.toArray c), (L' + 1, oc)] := List.mem_append_left [(L' + 1, oc)] hp
          simp only [List.mem_cons, List.not_mem_nil, or_false] at hp
          rcases hp with rfl | rfl | rfl | rfl <;> exact neCell N₆ hp' hc d1
        clear F N
        (try dsimp only)
        walk_at "mine steps c"
        refine stCN (own := [(r₆, listOf us.toArray c₆), (D₃, listOf ys₃.toArray c₃), (D₂, listOf ys₂.toArray c₂), (D, listOf ys.toArray c)]) (rest := []) F₆ N₆ rfl d1 h1 (by simp) ?_
        clear N₆ F₆ hD₃l hD₂l hDl d1
        intro h₇ o₇ F N d1
        replace N : News s.heap L' h₇ [(r₆, listOf us.toArray c₆), (D₂, listOf ys₂.toArray c₂), (D, listOf ys.toArray c), (L' + 1, o₇)] := fun p hp => N p (by
          simp only [List.cons_append, List.nil_append, List.mem_cons, List.not_mem_nil, or_false] at hp ⊢
          rcases hp with h | h | h | h <;> simp [h])
        dsimp only
        walk_at "mine steps c"
        clear h1 hg₆ hn₆ k₆ hts
        have hSz : Sizes (ns.map szOf) := ⟨by rw [List.length_map]; exact hn.1, by rw [List.length_map]; exact hn.2, hszn⟩
        have hss : StrsAre us ((ssOf (ns.map szOf)).map fun a => tx [a]) := by
          have e : ((ssOf (ns.map szOf)).map fun a => tx [a]) = List.map stray (List.flatMap octs (ptsFrom 0 (List.map szOf ns))) := by
            unfold ssOf
            rw [List.map_map]
            exact List.map_congr_left fun o _ => (stray_tx o).symm
          rw [e]; exact hs₆
        have hK := ss_max hSz
        have huK : us.toArray.size = (ssOf (ns.map szOf)).length := by
          have := hss.length
          rw [List.length_map] at this
          simpa using this
        clear hs₆
        refine For_list (items := vs) (ax := l) (fun m => m (Str.ofString "text") = some (.str (tx (List.map Int.toNat (ptsFrom 0 (List.map szOf ns)))) t₅) ∧ m (Str.ofString "sizes") = some (.ref D)) rfl F N hl ?_ ⟨rfl, rfl⟩ ?_ ?_ rfl rfl ?_
        · intro Q' hq
          walk_at "mine step"
          exact hq
        · clear F N
          intro v I oI h₈ tk₈ m₈ hv hJ F N
          replace F : Fr s.heap L' _ _ := F
          replace N : News s.heap L' _ _ := N
          obtain ⟨n, t₈, rfl, hnn⟩ := ints_mem hi v hv
          obtain ⟨m₉, F₉⟩ : ∃ m₉ : Str → Option Value, Fr s.heap L' h₈ (fun y => if y = Str.ofString "number" then some (.int n t₈) else if y = Str.ofString "text" then some (.str (tx (List.map Int.toNat (ptsFrom 0 (List.map szOf ns)))) t₅) else if y = Str.ofString "sizes" then some (.ref D) else m₉ y) :=
            ⟨_, frPick _ (frPick _ (frPick _ F hJ.2) hJ.1) rfl⟩
          clear F
          dsimp only
          walk_at "mine steps f"
          refine len_list ⟨_, News.get N (.tail _ (.head _)), rfl, c₆, rfl⟩ (by rw [huK]; omega) ?_
          rw [huK]
          dsimp only
          walk_at "mine steps f"
          refine len_list ⟨_, News.get N (.tail _ (.head _)), rfl, c₆, rfl⟩ (by rw [huK]; omega) ?_
          rw [huK]
          dsimp only
          walk_at "mine steps f"
          rename Fr _ _ _ _ => F
          rename News _ _ _ _ => N
          clear hJ hps hpb hy2l
          have hn0 := hp n hnn
          have hc1 : (n.fdiv 4).fmod ((ssOf (List.map szOf ns)).length + 1) = (((n / 4) % ((ssOf (List.map szOf ns)).length + 1)).toNat : Nat) ∧ ((n / 4) % ((ssOf (List.map szOf ns)).length + 1)).toNat ≤ (ssOf (List.map szOf ns)).length := by
            rw [fdv n 4 (by decide), fmd _ _ (by omega)]
            have h1 := Int.emod_nonneg (n / 4) (show ((ssOf (List.map szOf ns)).length + 1 : Int) ≠ 0 by omega)
            have h2 := Int.emod_lt_of_pos (n / 4) (show (0 : Int) < ((ssOf (List.map szOf ns)).length + 1 : Int) by omega)
            omega
          have hc2 : (n.fdiv 128).fmod ((ssOf (List.map szOf ns)).length + 1) = (((n / 128) % ((ssOf (List.map szOf ns)).length + 1)).toNat : Nat) ∧ ((n / 128) % ((ssOf (List.map szOf ns)).length + 1)).toNat ≤ (ssOf (List.map szOf ns)).length := by
            rw [fdv n 128 (by decide), fmd _ _ (by omega)]
            have h1 := Int.emod_nonneg (n / 128) (show ((ssOf (List.map szOf ns)).length + 1 : Int) ≠ 0 by omega)
            have h2 := Int.emod_lt_of_pos (n / 128) (show (0 : Int) < ((ssOf (List.map szOf ns)).length + 1 : Int) by omega)
            omega
          obtain ⟨e1, hc1⟩ := hc1
          obtain ⟨e2, hc2⟩ := hc2
          rw [e1, e2] at N
          clear e1 e2
          generalize ((n / 4) % ((ssOf (List.map szOf ns)).length + 1)).toNat = c1 at *
          generalize ((n / 128) % ((ssOf (List.map szOf ns)).length + 1)).toNat = c2 at *
          rename_i lc h₉
          generalize hZ : ns.map szOf = zs at *
          rename_i lA
          have hCx : ∀ (env₁ : Env) (L₁ : Addr) (s' : Shared) (m₁ : Str → Option Value), env₁.frame = some L₁ → env₁.scope.kind = .function → Fr s.heap L₁ s'.heap m₁ → Cx w (Around.deeper ⟨none, dp, some (env :: outer), gd, un⟩ env₁) s' 20 200 := fun env₁ L₁ s' m₁ h1 h2 F₁ =>
            Cx.of B' F₁ X' T' rfl h1 h2 (by show _ + 1 + 20 < recursionLimit; dsimp only; omega) (by show _ + 3 + 200 < cLine; dsimp only; omega) rfl
          refine Assign_one (cl := [(Str.ofString "strays", L' + 1)]) (items := [Value.int (c1 : Nat) _, Value.int (c2 : Nat) _]) (fun v y => ∃ (k : Nat) (t t' : Tok) (o : List Nat), v = .int k t ∧ y = .str (tx o) t' ∧ meant (tx (txtOf zs)) (cutAt zs k).1 (cutAt zs k).2 = tx o) rfl F N ⟨_, News.get N (.head _), rfl, 0, rfl⟩ ?_ ?_ ?_ ?_ ?_ ?_ ?_ ?_ ?_ ?_ ?_ ?_ ?_
          · intro Q' hq
            walk_at "mine step"
            exact hq
          · simp
          · intro C₃ v s₃ m₃ hC hv hns hm hk
            obtain ⟨k, t, rfl, hkK⟩ : ∃ (k : Nat) (t : Tok), v = .int k t ∧ k ≤ (ssOf zs).length := by
              simp only [List.mem_cons, List.not_mem_nil, or_false] at hv
              rcases hv with rfl | rfl
              · exact ⟨_, _, rfl, hc1⟩
              · exact ⟨_, _, rfl, hc2⟩
            obtain ⟨o1, o2, hD1, hD2, hme⟩ := halves hSz hkK
            have FC : Fr s.heap C₃ s₃.heap m₃ := ⟨hns, fun b o e => hk b o (F.keep b o e), Nat.le_trans (Nat.le_of_lt (Nat.lt_of_le_of_lt F.above F.ns.lt)) hC⟩
            have hgS : s₃.heap.get? r₆ = some (listOf us.toArray c₆) := hk _ _ (News.get N (.tail _ (.tail _ (.head _))))
            have hgC : s₃.heap.get? (L' + 1) = some o₇ := hk _ _ (News.get N (.tail _ (.tail _ (.tail _ (.tail _ (.tail _ (.head _)))))))
            have hCx₃ : ∀ (env₁ : Env) (s' : Shared), env₁.frame = some L' → env₁.scope.kind = .function → Keeps' s₃.heap s'.heap → Cx w (Around.deeper ⟨none, dp, some (env :: outer), gd, un⟩ env₁) s' 10 100 := fun env₁ s' h1 h2 k' =>
              (hCx env₁ L' s' _ h1 h2 (frExt F fun x o q => k' x o (hk x o q))).less (by omega) (by omega)
            clear F N
            refine wpAny_mono (Q := fun r s₄ => Stop ((∃ t', r = .str (tx (o1 ++ o2)) t') ∧ Keeps s₃ s₄)) ?_ (fun r s₄ q => ?_) (fun _ _ f => f)
            · walk_at "mine steps g"
              have huL : us.length ≤ 1000 := by have := huK; simp at this; omega
              refine sub_upto (k := k) (t := t) hgS huL ?_ ?_ ?_ (by intro _ _; rfl)
              · exact fun Q' hq => wpAny_Name (wpAny_loadName_cell rfl (by with_unfolding_all rfl) rfl ⟨o₇, hgC, d1⟩ hq) rfl
              · intro Q' hq
                walk_at "mine step"
                exact hq
              intro g₁ r₁ kp₁ hr₁
              have FC₁ := frExt FC kp₁
              have hns₁ := FC₁.ns
              have hgS₁ := kp₁ _ _ hgS
              have hgC₁ := kp₁ _ _ hgC
              dsimp only
              walk_at "mine steps g"
              refine join_call (l := (ssOf zs).take k) hr₁ (strs_take k hss) (by rw [List.length_take]; omega) fun t₆ k₆ => ?_
              dsimp only
              walk_at "mine steps g"
              refine sanitize_call (hCx₃ _ _ rfl rfl kp₁) (out := o1) ?_ ?_ ?_ ?_
              · intro c hc
                rw [tx_cps] at hc
                exact ss_sign hSz c (List.mem_of_mem_take hc)
              · rw [tx_len, List.length_take]; omega
              · rw [tx_cps]; exact hD1
              intro g₂ tk₂' t₂ kp₂
              have FC₂ := frExt FC₁ kp₂
              have hns₂ := FC₂.ns
              have hgS₂ := kp₂ _ _ hgS₁
              have hgC₂ := kp₂ _ _ hgC₁
              dsimp only
              walk_at "mine steps g"
              refine sub_from (k := k) (t := t) hgS₂ huL ?_ ?_ ?_ (by intro _ _; rfl)
              · exact fun Q' hq => wpAny_Name (wpAny_loadName_cell rfl (by with_unfolding_all rfl) rfl ⟨o₇, hgC₂, d1⟩ hq) rfl
              · intro Q' hq
                walk_at "mine step"
                exact hq
              intro g₃ r₃ kp₃ hr₃
              have FC₃ := frExt FC₂ kp₃
              have hns₃ := FC₃.ns
              dsimp only
              walk_at "mine steps g"
              refine join_call (l := (ssOf zs).drop k) hr₃ (strs_drop k hss) (by rw [List.length_drop]; omega) fun t₆ k₆ => ?_
              dsimp only
              walk_at "mine steps g"
              refine sanitize_call (hCx₃ _ _ rfl rfl fun x o q => kp₃ x o (kp₂ x o (kp₁ x o q))) (out := o2) ?_ ?_ ?_ ?_
              · intro c hc
                rw [tx_cps] at hc
                exact ss_sign hSz c (List.mem_of_mem_drop hc)
              · rw [tx_len, List.length_drop]; omega
              · rw [tx_cps]; exact hD2
              intro g₄ tk₄' t₄ kp₄
              dsimp only
              walk_at "mine steps g"
              have l1 := hD1.len
              have l2 := hD2.len
              refine add_str (fun t' k' => ?_) (by rw [sizeLine_eq]; simp [Str.length] at l1 l2 ⊢; omega)
              refine ⟨⟨t', ?_⟩, _, _, rfl, fun b o q => kp₄ b o (kp₃ b o (kp₂ b o (kp₁ b o q)))⟩
              rw [← tx_app]
            · obtain ⟨⟨t', e⟩, q2⟩ := q; exact ⟨⟨k, t, t', _, rfl, e, hme⟩, q2⟩
          · clear F N
            intro D₅ h₅ tk₅ c₅ ys₅ F N hP
            replace F : Fr s.heap L' _ _ := F
            replace N : News s.heap L' _ _ := N
            dsimp only
            obtain ⟨o1, o2, t1, t2, rfl, hm1, hm2⟩ := seen_two hP
            clear hP
            have hsum := ss_len hSz
            have b1 := cut_bd hSz hc1
            have b2 := cut_bd hSz hc2
            have hlz : zs.length ≤ 100 := by have := hSz.2.1; omega
            have hz0 : ∀ z ∈ zs, 0 < z := fun z hz => by have := hszn z hz; omega
            walk_at "mine steps f"
            refine cut_call (c := ((c1 : Nat) : Int)) ((hCx _ L' _ _ rfl rfl F).less (by omega) (by omega)) ⟨_, News.get N (.tail _ (.tail _ (.tail _ (.tail _ (.tail _ (.head _)))))), rfl, c, rfl⟩ hzs hlz hz0 (by omega) (by omega) ?_
            intro h₁₀ tk₁₀ r₁₀ u1 u2 k₁₀ hn₁₀ hg₁₀
            dsimp only at k₁₀ hn₁₀ ⊢
            have F₁₀ := frExt F k₁₀
            have N₁₀ := newsPut F N k₁₀ hn₁₀ hg₁₀
            clear F N
            walk_at "mine steps f"
            rename Fr _ _ _ _ => F
            rename News _ _ _ _ => N
            refine cut_call (c := ((c2 : Nat) : Int)) ((hCx _ L' _ _ rfl rfl F).less (by omega) (by omega)) ⟨_, News.get N (.tail _ (.tail _ (.tail _ (.tail _ (.tail _ (.tail _ (.head _))))))), rfl, c, rfl⟩ hzs hlz hz0 (by omega) (by omega) ?_
            intro h₁₁ tk₁₁ r₁₁ u3 u4 k₁₁ hn₁₁ hg₁₁
            dsimp only at k₁₁ hn₁₁ ⊢
            have F₁₁ := frExt F k₁₁
            have N₁₁ := newsPut F N k₁₁ hn₁₁ hg₁₁
            clear F N
            walk_at "mine steps f"
            rename Fr _ _ _ _ => F
            rename News _ _ _ _ => N
            have hxt : (tx (txtOf zs)).length ≤ 1000 := by
              rw [tx_len]; unfold txtOf; rw [List.length_map]; have := pts_len 0 zs; have := hSz.2.1; omega
            refine meant_call (x := tx (txtOf zs)) ((hCx _ L' _ _ rfl rfl F).less (by omega) (by omega)) hxt (by omega) (by omega) (by omega) (by omega) ?_
            rw [hm1]
            intro h₁₂ tk₁₂ t₁₂ k₁₂
            dsimp only at k₁₂ ⊢
            have F₁₂ := frExt F k₁₂
            have N₁₂ := newsExt N k₁₂
            clear F N
            walk_at "mine steps f"
            rename Fr _ _ _ _ => F
            rename News _ _ _ _ => N
            refine meant_call (x := tx (txtOf zs)) ((hCx _ L' _ _ rfl rfl F).less (by omega) (by omega)) hxt (by omega) (by omega) (by omega) (by omega) ?_
            rw [hm2]
            intro h₁₃ tk₁₃ t₁₃ k₁₃
            dsimp only at k₁₃ ⊢
            have F₁₃ := frExt F k₁₃
            have N₁₃ := newsExt N k₁₃
            clear F N
            walk_at "mine steps f"
            rename Fr _ _ _ _ => F
            rename News _ _ _ _ => N
            refine ne_two (mean_ok hSz hc1 hm1) (mean_ok hSz hc2 hm2) ⟨_, News.get N (.tail _ (.tail _ (.tail _ (.head _)))), rfl, c₅, rfl⟩ ⟨_, News.get N (.head _), rfl, 0, rfl⟩ (by show _ + 64 < cLine; show _ + 3 + 64 < cLine; dsimp only; omega) ?_
            dsimp only
            walk_at "mine steps f"
            rename Fr _ _ _ _ => F
            rename News _ _ _ _ => N
            refine len_list ⟨_, News.get N (.tail _ (.tail _ (.tail _ (.tail _ (.tail _ (.tail _ (.head _))))))), rfl, c₆, rfl⟩ (by rw [huK]; omega) ?_
            rw [huK]
            dsimp only
            walk_at "mine steps f"
            obtain ⟨P, a2, b2, S, hA, hB, hal, hbl, hpre, hpost, hfit, hlev⟩ := apart hSz hc1 hc2 hm1 hm2
            refine lev_call (Al := o1) (Bl := o2) (mx := 2 * ((ssOf zs).length : Int)) (hCx _ L' _ _ rfl rfl F) hA hB hal hbl hpre hpost hfit ?_
            rw [hlev]
            intro h₁₄ tk₁₄ t₁₄ k₁₄
            dsimp only at k₁₄ ⊢
            have F₁₄ := frExt F k₁₄
            have N₁₄ := newsExt N k₁₄
            clear F N
            walk_at "mine steps f"
            · exfalso
              rename dueOf _ _ _ _ ≠ _ => hne
              apply hne
              unfold dueOf
              generalize (cutAt zs c1).1 = p
              generalize (cutAt zs c1).2 = k
              generalize (cutAt zs c2).1 = q
              generalize (cutAt zs c2).2 = j
              (repeat' split) <;> omega
            · exact ⟨rfl, h₁₄, tk₁₄, _, rfl, F₁₄, fun p hp => N₁₄ p (.tail _ (.tail _ (.tail _ (.tail _ (.tail _ hp))))), rfl, rfl⟩
          · with_unfolding_all rfl
          · with_unfolding_all rfl
          · decide
          · rfl
          · decide
          · decide
          · rfl
          · rfl
          · intro _; rfl
        · clear F N
          intro h₈ tk₈ m₈ F N hJ
          replace F : Fr s.heap L' _ _ := F
          replace N : News s.heap L' _ _ := N
          dsimp only
          walk_at "mine steps c"
          exact hQ _ _ (Fr.keep F)
        · intro _; rfl
      · with_unfolding_all rfl
      · decide
      · rfl
      · decide
      · decide
      · intro _; rfl
    · with_unfolding_all rfl
    · with_unfolding_all rfl
    · decide
    · rfl
    · decide
    · decide
    · decide
    · decide
    · rfl
    · rfl
    · intro _; rfl
  · with_unfolding_all rfl
  · with_unfolding_all rfl
  · decide
  · rfl
  · decide
  · decide
  · rfl
  · rfl
  · intro _; rfl
end Mine
end C6Part

/-! F1 -/
section F1Part
open PySem PySem.W PyProof.Rows
namespace Mine
local macro_rules | `(tactic| walk_at "mine step") => `(tactic| first | (k_unfold; (try dsimp only)) | walk1 | (dsimp only; walk1) | (leave1; walk_say "STEP leave1"; try dsimp only) | fail "no step")
local macro_rules | `(tactic| walk_at "mine steps h") => `(tactic| repeat' ((fail_if_success (with_reducible show wpAny _ _ (call (Value.ref _) _) _ _ _)); walk_at "mine step"))
theorem law_len (ns : List Int) : 0 < (List.map (fun k : Int => k.fmod (10 ^ Int.toNat 6)) (List.take 3 ns) ++ [1062, 515, 1307]).length ∧ (List.map (fun k : Int => k.fmod (10 ^ Int.toNat 6)) (List.take 3 ns) ++ [1062, 515, 1307]).length ≤ 6 := by
  simp
  omega
theorem law_bd (ns : List Int) : ∀ n ∈ List.map (fun k : Int => k.fmod (10 ^ Int.toNat 6)) (List.take 3 ns) ++ [1062, 515, 1307], 0 ≤ n ∧ n < 10 ^ 6 := by
  intro n hn
  rcases List.mem_append.mp hn with hn | hn
  · obtain ⟨k, _, rfl⟩ := List.mem_map.mp hn
    exact ⟨Int.fmod_nonneg_of_pos _ (by decide), Int.fmod_lt_of_pos _ (by decide)⟩
  · simp only [List.mem_cons, List.not_mem_nil, or_false] at hn
    rcases hn with rfl | rfl | rfl <;> decide
set_option maxRecDepth 100000 in
set_option maxHeartbeats 4000000 in
theorem main : PySem.Challenge.rw_pg0076_01.Holds := hd (by
  k_go0
  all_goals try k_fold
  walk_at "mine steps h"
  rename Fr _ _ _ _ => F
  rename News _ _ _ _ => N
  rename Below _ _ _ _ => B
  rename Top _ _ _ _ _ _ => T
  rename Spec.Shape.has _ _ = true => hs
  rename IntsAre _ (_ ++ _) => hI
  refine apart_call (Cx.of B F (by assumption) T rfl rfl rfl (by show callerA.depth + 1 + 50 < recursionLimit; decide) (by show callerA.units + 3 + 500 < cLine; decide) rfl) ⟨_, News.get N (.head _), rfl, 0, rfl⟩ hI (law_len _) (law_bd _) ?_
  intro h₂ tk₂ k₂
  dsimp only at k₂
  have F₂ := frExt F k₂
  have N₂ := newsExt N k₂
  clear F N
  dsimp only
  k_end
  wrow_close)
end Mine
end F1Part

theorem PySem.Challenge.cw_pg0076_01_holds : PySem.Challenge.rw_pg0076_01.Holds :=
  Mine.main
