import PyProof.Rows.All
import Wide.All
import OpenK.AllK
import Wide.FinOn
import Lean
import PySem.Challenge.RW_dm0179_06
open PySem PySem.W PyProof.Rows
set_option Elab.async false
set_option linter.unusedVariables false
set_option linter.unusedSimpArgs false

namespace Mine
set_option maxRecDepth 100000 in
set_option maxHeartbeats 8000000 in
open_top hd for PySem.Challenge.rw_dm0179_06
end Mine

namespace Mine
set_option maxRecDepth 100000
open PySem.Calls Builtin Builtin.BaseException Builtin.Exceptions

/-- an exception of an own class that stands in the heap -/
structure OwnE (K : Frag) (h : Heap) (e t C : Addr) (vs : List Value) : Prop where
  at_ : ∃ oe ws, h.get? e = some oe ∧ oe.cls = .ref C ∧ oe.data = .fields ws ∧ ws[0]? = some (.ref t)
  tup : h.TupAt t vs
  kin : K.In h
  sub : mroIn K C (.type "BaseException") = some true

section
variable {prog : Program} {w : World} {A : Around} {E : Value → Shared → Prop} {s : Shared} {K : Frag} {e t C : Addr} {vs : List Value}

theorem OwnE.ty {M : Model} {h : Heap} (o : OwnE K h e t C vs) : Looks M h (typeOf (.ref e)) (.ref C) := by
  obtain ⟨oe, ws, h1, h2, _⟩ := o.at_
  exact h2 ▸ (Looks.ld h1).andThen .now

theorem own_check {M : Model} {id n : String} {rest : List Value} {Q : Unit → Shared → Prop} (o : OwnE K s.heap e t C vs)
    (hk : builtinKind id = some .slot) (hsp : splitId id = some ("BaseException", n)) (ha : argsOk id ⟨.ref e :: rest, []⟩) (hq : Q () s) :
    wpAny M A (checkBuiltinCall id ⟨.ref e :: rest, []⟩) Q E s := by
  have L1 := o.ty (M := M)
  have L2 := looks_mroIn (M := M) o.kin o.sub
  have L3 : Looks M s.heap (isInstance (.ref e) (.type "BaseException")) true := L1.andThen L2
  simp only [checkBuiltinCall, hk, hsp]
  refine wpAny_bind (m := isInstance (.ref e) (.type "BaseException")) (L3.here ?_)
  unfold argsOk at ha
  simp only [Bool.not_true, Bool.false_eq_true, if_false]
  generalize Manifest.signature? id = sg at ha ⊢
  cases sg <;> exact wpAny_of_eq ha hq

theorem own_call {id n : String} {b : Builtin} {rest : List Value} {Q : Value → Shared → Prop} (o : OwnE K s.heap e t C vs)
    (hk : builtinKind id = some .slot) (hsp : splitId id = some ("BaseException", n)) (hpl : plainId id = true) (hb : entryFor table id = some b) (ha : argsOk id ⟨.ref e :: rest, []⟩)
    (hc : wpAny (model prog w) A.in1 (b ⟨.ref e :: rest, []⟩) (fun fin s' => ∃ v, fin = .done (.ret v) ∧ Q v s') E s) :
    wpAny (model prog w) A (call (.builtin id) (.ref e :: rest)) Q E s := by
  refine wpAny_call (codeAny_call_builtin hpl hb (own_check o hk hsp ha (wpAny_mono hc (fun fin s' h' => ?_) fun _ _ h' => h')))
  obtain ⟨v, rfl, hv⟩ := h'; exact hv

theorem own_bexcArgs {M : Model} {Q : Value × List Value → Shared → Prop} (o : OwnE K s.heap e t C vs) (hq : Q (.ref t, vs) s) :
    wpAny M A (bexcArgs (.ref e)) Q E s := by
  obtain ⟨oe, ws, ho, _, hd, h0⟩ := o.at_
  obtain ⟨ot, k, hto, _, htd⟩ := o.tup
  unfold bexcArgs
  refine wpAny_bind (wpAny_field ho hd h0 (wpAny_bind (wpAny_seqItems hto htd ?_)))
  have : vs.toArray.toList = vs := by simp
  show wpAny M A (pure (Value.ref t, vs.toArray.toList)) Q E s
  rw [this]; exact wpAny_pure hq

theorem own_str_entry {x : Str} {u : Tok} {Q : Fin → Shared → Prop} (o : OwnE K s.heap e t C [.str x u]) (hq : Q (.done (.ret (.str x u))) s) :
    wpAny (model prog w) A (Builtin.«BaseException.__str__» ⟨[.ref e], []⟩) Q E s := by
  unfold Builtin.«BaseException.__str__»
  repeat (first | with_reducible refine own_bexcArgs o ?_ | wp_step)
  exact hq

theorem own_str_call {x : Str} {u : Tok} {Q : Value → Shared → Prop} (o : OwnE K s.heap e t C [.str x u]) (hq : Q (.str x u) s) :
    wpAny (model prog w) A (call (.builtin "BaseException.__str__") [.ref e]) Q E s :=
  own_call (n := "__str__") o (by decide +kernel) (by decide +kernel) F.excStr_ValueError.str.plain F.entry_bexc_str (F.args_bexc_str _) (own_str_entry o ⟨_, rfl, hq⟩)

/-- a special method of an own exception's class that is a built-in's slot -/
theorem own_special {M : Model} {X id : String} {name : Str} {args : List Value} {Q : Option Value → Shared → Prop} (o : OwnE K s.heap e t C vs)
    (hs : findIn K (.ref C) name = some (some (.builtin id))) (h : Slot X name id) (hc : wpAny M A (call (.builtin id) (.ref e :: args)) (fun v => Q (some v)) E s) :
    wpAny M A (callSpecial? (.ref e) name args) Q E s := by
  have L : Looks M s.heap (specialOf (.ref e) name) (some (.builtin id)) := o.ty.andThen (looks_findIn o.kin hs)
  simp only [callSpecial?]
  refine wpAny_bind (L.here ?_)
  simp only [h.bind]
  exact wpAny_holding (wpAny_bind (wpAny_pure (wpAny_bind (wpAny_mono hc (fun v s' h' => wpAny_pure h') fun _ _ h' => h'))))

theorem own_strOf {x : Str} {u : Tok} {Q : Value → Shared → Prop} (o : OwnE K s.heap e t C [.str x u]) (hs : findIn K (.ref C) "__str__" = some (some (.builtin "BaseException.__str__")))
    (hu : A.units < cLine) (hq : Q (.str x u) s) : wpAny (model prog w) A (Builtin.Str.strOf (.ref e)) Q E s := by
  unfold Builtin.Str.strOf
  repeat (first | with_reducible refine wpAny_cRoomFor hu ?_ | with_reducible refine own_special o hs F.excStr_ValueError.str (own_str_call o ?_) | wp_step)
  exact hq

theorem own_str {x : Str} {u : Tok} {Q : Value → Shared → Prop} (o : OwnE K s.heap e t C [.str x u]) (hs : findIn K (.ref C) "__str__" = some (some (.builtin "BaseException.__str__")))
    (hu : A.units + 2 < cLine) (hq : Q (.str x u) s) : wpAny (model prog w) A (call (.type "str") [.ref e]) Q E s :=
  callType_new F.called_str (by decide) (F.typeCall_str_1 _) (F.newCall_str_1 _) (fun obj => F.args_object_init_2 obj _) F.entry_str_new
    (PySem.meets_str_new (S := fun A' R s' => A'.units + 1 < cLine ∧ OwnE K s'.heap e t C [.str x u] ∧ R (.ok (.ret (.str x u))) s')
      fun _ _ A' _ _ hq => own_strOf (A := A'.in1) hq.2.1 hs hq.1 hq.2.2)
    ⟨(show A.units + 1 + 1 < cLine from hu), o, typeIs_str _ _ _, hq⟩

end

structure ExcObj (oe : Obj) (cls : Value) (t : Addr) : Prop where
  cls_ : oe.cls = cls
  dat_ : ∃ ws, oe.data = .fields ws ∧ ws[0]? = some (.ref t)
structure TupObj (ot : Obj) (vs : List Value) : Prop where
  cls_ : ot.cls = .type "tuple"
  dat_ : ∃ n, ot.data = .seq vs.toArray n

theorem got_merge {h₀ h : Heap} {L e t : Addr} {n₂ led : List (Addr × Obj)} {cls : Value} {vs : List Value} (N₂ : News h₀ L h n₂) (G : Got n₂ e t cls vs) (N : News h₀ L h led) :
    ∃ oe ot, ExcObj oe cls t ∧ TupObj ot vs ∧ News h₀ L h ((e, oe) :: (t, ot) :: led) := by
  obtain ⟨oe, ot, ws, nt, h1, h2, hc, hd, h0, htc, htd⟩ := G
  refine ⟨oe, ot, ⟨hc, ws, hd, h0⟩, ⟨htc, nt, htd⟩, fun p hp => ?_⟩
  rcases List.mem_cons.mp hp with rfl | hp
  · exact N₂ _ h1
  rcases List.mem_cons.mp hp with rfl | hp
  · exact N₂ _ h2
  · exact N p hp

section
variable {prog : Program} {w : World} {A : Around} {E : Value → Shared → Prop} {s : Shared} {K : Frag} {e t C L : Addr} {vs : List Value} {h₀ : Heap} {m : Str → Option Value} {news : List (Addr × Obj)} {oe ot : Obj} {Q : Value → Shared → Prop}

theorem ownE_of (F : Fr h₀ L s.heap m) (X₀ : K.In h₀) (N : News h₀ L s.heap news) (m1 : (e, oe) ∈ news) (hE : ExcObj oe (.ref C) t) (m2 : (t, ot) ∈ news) (hT : TupObj ot vs) (sub : mroIn K C (.type "BaseException") = some true) : OwnE K s.heap e t C vs := by
  obtain ⟨ws, hd, h0⟩ := hE.dat_
  obtain ⟨n, hn⟩ := hT.dat_
  exact ⟨⟨oe, ws, (N _ m1).1, hE.cls_, hd, h0⟩, ⟨ot, n, (N _ m2).1, hT.cls_, hn⟩, X₀.keeps F.keep, sub⟩

theorem own_strK {x : Str} {u : Tok} (F : Fr h₀ L s.heap m) (X₀ : K.In h₀) (N : News h₀ L s.heap news) (m1 : (e, oe) ∈ news) (hE : ExcObj oe (.ref C) t) (m2 : (t, ot) ∈ news) (hT : TupObj ot [.str x u])
    (sub : mroIn K C (.type "BaseException") = some true) (hs : findIn K (.ref C) "__str__" = some (some (.builtin "BaseException.__str__"))) (hu : A.units + 2 < cLine) (hq : Q (.str x u) s) :
    wpAny (model prog w) A (call (.type "str") [.ref e]) Q E s := own_str (ownE_of F X₀ N m1 hE m2 hT sub) hs hu hq

theorem own_typeK {cls : Value} (N : News h₀ L s.heap news) (m1 : (e, oe) ∈ news) (hE : ExcObj oe cls t) (hnb : (cls == .type "builtin_function_or_method") = false) (hq : Q cls s) :
    wpAny (model prog w) A (call (.type "type") [.ref e]) Q E s := by
  obtain ⟨h, g, d, tk, os⟩ := s
  exact call_type_obj (N.get m1) (by rw [hE.cls_]; exact hnb) (by rw [hE.cls_]; exact hq)

end
end Mine

namespace Mine
set_option maxRecDepth 100000
open PySem.Calls Builtin
section
variable {prog : Program} {w : World} {A : Around} {E : Value → Shared → Prop} {s : Shared} {b : Array UInt8} {t u : Tok} {n : Int} {Q : Value → Shared → Prop}
theorem typeIs_bytes' (s : Shared) (b : Array UInt8) (t : Tok) : s.TypeIs (.bytes b t) "bytes" := rfl
end
end Mine

namespace Mine
set_option maxRecDepth 100000
open PySem.Calls PySem.Spec
def hexS (n : Int) : Str := ⟨#[if n.toNat < 10 then 48 + n.toNat else 87 + n.toNat]⟩
/-- one byte as the law writes it; q is the quote's number -/
def shownB (q n : Int) : Str :=
  if n = 9 then Str.ofString "\\t" else if n = 10 then Str.ofString "\\n" else if n = 13 then Str.ofString "\\r" else if n = 92 then Str.ofString "\\\\" else if n = q then ⟨#[92, q.toNat]⟩
  else if 32 ≤ n ∧ n < 127 then ⟨#[n.toNat]⟩ else Str.ofString "\\x" ++ hexS (n.fdiv 16) ++ hexS (n.fmod 16)
def litAcc (q : Int) (pre : List Int) : Str := pre.foldl (fun acc n => acc ++ shownB q n) (Str.ofString "b" ++ ⟨#[q.toNat]⟩)
theorem shownB_len (q n : Int) : (shownB q n).length ≤ 4 := by
  unfold shownB
  have e1 : (Str.ofString "\\t").length = 2 := by decide
  have e2 : (Str.ofString "\\n").length = 2 := by decide
  have e3 : (Str.ofString "\\r").length = 2 := by decide
  have e4 : (Str.ofString "\\\\").length = 2 := by decide
  have e5 : (Str.ofString "\\x").length = 2 := by decide
  have e6 : ∀ a : Nat, (⟨#[a]⟩ : Str).length = 1 := fun _ => rfl
  have e7 : ∀ a b : Nat, (⟨#[a, b]⟩ : Str).length = 2 := fun _ _ => rfl
  repeat' split
  all_goals (try rw [strLen_append, strLen_append]); (try unfold hexS); simp only [e1, e2, e3, e4, e5, e6, e7]; try omega
theorem litAcc_len (q : Int) (pre : List Int) : (litAcc q pre).length ≤ 2 + 4 * pre.length := by
  have : ∀ (l : List Int) (a : Str), (l.foldl (fun acc n => acc ++ shownB q n) a).length ≤ a.length + 4 * l.length := by
    intro l
    induction l with
    | nil => intro a; simp
    | cons n r ih =>
      intro a
      have h1 := ih (a ++ shownB q n)
      have h2 := shownB_len q n
      rw [strLen_append] at h1
      simp only [List.foldl_cons, List.length_cons]
      omega
  have h := this pre (Str.ofString "b" ++ ⟨#[q.toNat]⟩)
  have e : (Str.ofString "b" ++ ⟨#[q.toNat]⟩ : Str).length = 2 := by rw [strLen_append]; rfl
  unfold litAcc
  omega

def quoteOf (b : Array UInt8) : Nat := if b.contains 39 && !b.contains 34 then 34 else 39
def hexN (n : Nat) : Nat := if n < 10 then 48 + n else 87 + n
def shownN (q c : Nat) : Array Nat :=
  if c == q || c == 92 then #[92, c]
  else if c == 9 then #[92, 116]
  else if c == 10 then #[92, 110]
  else if c == 13 then #[92, 114]
  else if c < 32 || c ≥ 127 then #[92, 120, hexN (c / 16), hexN (c % 16)]
  else #[c]
theorem literal_is (b : Array UInt8) : Builtin.Bytes.literal b = ⟨(b.foldl (fun acc c => acc ++ shownN (quoteOf b) c.toNat) #[98, quoteOf b]).push (quoteOf b)⟩ := rfl
theorem shownB_shownN {q : Nat} (hq : q = 39 ∨ q = 34) (c : Nat) (hc : c < 256) : (shownB (q : Int) (c : Int)).cps = shownN q c := by
  unfold shownB shownN
  have l1 : (Str.ofString "\\t").cps = #[92, 116] := by decide +kernel
  have l2 : (Str.ofString "\\n").cps = #[92, 110] := by decide +kernel
  have l3 : (Str.ofString "\\r").cps = #[92, 114] := by decide +kernel
  have l4 : (Str.ofString "\\\\").cps = #[92, 92] := by decide +kernel
  have l5 : (Str.ofString "\\x").cps = #[92, 120] := by decide +kernel
  by_cases h9 : c = 9
  · subst h9; rcases hq with rfl | rfl <;> simp [l1]
  by_cases h10 : c = 10
  · subst h10; rcases hq with rfl | rfl <;> simp [l2]
  by_cases h13 : c = 13
  · subst h13; rcases hq with rfl | rfl <;> simp [l3]
  by_cases h92 : c = 92
  · subst h92; rcases hq with rfl | rfl <;> simp [l4]
  by_cases hcq : c = q
  · subst hcq
    have : ¬ ((c : Int) = 9) := by omega
    have : ¬ ((c : Int) = 10) := by omega
    have : ¬ ((c : Int) = 13) := by omega
    have : ¬ ((c : Int) = 92) := by omega
    simp [*]
  have a1 : ¬ ((c : Int) = 9) := by omega
  have a2 : ¬ ((c : Int) = 10) := by omega
  have a3 : ¬ ((c : Int) = 13) := by omega
  have a4 : ¬ ((c : Int) = 92) := by omega
  have a5 : ¬ ((c : Int) = (q : Int)) := by omega
  simp only [a1, a2, a3, a4, a5, if_false]
  have b1 : (c == q || c == 92) = false := by simp [hcq, h92]
  have b2 : (c == 9) = false := by simpa using h9
  have b3 : (c == 10) = false := by simpa using h10
  have b4 : (c == 13) = false := by simpa using h13
  simp only [b1, b2, b3, b4, Bool.false_eq_true, if_false]
  by_cases hp : 32 ≤ c ∧ c < 127
  · rw [if_pos (by omega), if_neg (by simp; omega)]
    simp
  · rw [if_neg (by omega), if_pos (by simp; omega)]
    simp only [Str.cps_append, l5]
    unfold hexS hexN
    have e1 : ((c : Int).fdiv 16).toNat = c / 16 := by
      rw [Int.fdiv_eq_ediv_of_nonneg _ (by decide)]; omega
    have e2 : ((c : Int).fmod 16).toNat = c % 16 := by
      rw [Int.fmod_eq_emod_of_nonneg _ (by decide)]; omega
    rw [e1, e2]
    rfl
theorem quoteOf_two (b : Array UInt8) : quoteOf b = 39 ∨ quoteOf b = 34 := by unfold quoteOf; split <;> simp
theorem literal_acc (b : Array UInt8) : litAcc (quoteOf b) (KBw.bInts b) ++ ⟨#[quoteOf b]⟩ = Builtin.Bytes.literal b := by
  rw [literal_is]
  refine Str.ext' ?_
  rw [Str.cps_append]
  have key : ∀ (l : List UInt8) (a : Str), ((l.map fun c => ((c.toNat : Nat) : Int)).foldl (fun acc n => acc ++ shownB (quoteOf b) n) a).cps = l.foldl (fun acc c => acc ++ shownN (quoteOf b) c.toNat) a.cps := by
    intro l
    induction l with
    | nil => intro a; rfl
    | cons c r ih =>
      intro a
      simp only [List.map_cons, List.foldl_cons]
      rw [ih, Str.cps_append, shownB_shownN (quoteOf_two b) c.toNat c.toNat_lt]
  have e : KBw.bInts b = b.toList.map fun c => ((c.toNat : Nat) : Int) := rfl
  unfold litAcc
  rw [e, key, ← Array.foldl_toList]
  have l0 : (Str.ofString "b" ++ ⟨#[((quoteOf b : Nat) : Int).toNat]⟩ : Str).cps = #[98, quoteOf b] := by
    rw [Str.cps_append, show (Str.ofString "b").cps = #[98] from by decide +kernel]
    simp
  rw [l0]
  simp
end Mine

namespace Mine
set_option maxRecDepth 100000
open PySem.Calls Builtin
theorem slot_bytes_repr : Slot "bytes" "__repr__" "bytes.__repr__" :=
  .of (owner := "bytes") (n := "__repr__") (by rw [typeLookup_type, builtinLookup_eq_fast]; kernel_rfl) (by decide +kernel) (by decide +kernel) (by decide +kernel)
    (by first | exact .inl (by decide +kernel) | exact .inr (by decide +kernel)) (by rw [isSubtype_type]; kernel_rfl)
theorem entry_bytes_repr : entryFor table "bytes.__repr__" = some Builtin.«bytes.__repr__» := entryFor_of_tree (by kernel_rfl)
theorem args_bytes_repr (a : Value) : argsOk "bytes.__repr__" ⟨[a], []⟩ := by unfold argsOk; kernel_rfl
theorem literal_len (b : Array UInt8) : (Builtin.Bytes.literal b).length ≤ 3 + 4 * b.size := by
  rw [← literal_acc, strLen_append]
  have h := litAcc_len (quoteOf b) (KBw.bInts b)
  rw [KBw.ints_length] at h
  have e : (⟨#[quoteOf b]⟩ : PySem.Str).length = 1 := rfl
  omega
section
variable {prog : Program} {w : World} {A : Around} {E : Value → Shared → Prop} {s : Shared} {b : Array UInt8} {t : Tok}
theorem repr_entry {Q : Fin → Shared → Prop} (hb : b.size ≤ 1000) (h : Q (.done (.ret (.str (Builtin.Bytes.literal b) s.toks))) { s with toks := s.toks + 1 }) :
    wpAny (model prog w) A (Builtin.«bytes.__repr__» ⟨[.bytes b t], []⟩) Q E s := by
  have hl := literal_len b
  unfold Builtin.«bytes.__repr__»
  show wpAny _ _ (Bytes.literalAsked b >>= fun r => retStr r) _ _ _
  refine wpAny_bind ?_
  unfold Bytes.literalAsked
  have e : Bytes.tooLong (4 * b.size + 3 + 0) = false := by
    unfold Bytes.tooLong; rw [sizeLine_eq]; simp; omega
  rw [e]
  simp only [Bool.false_and, Bool.false_eq_true, if_false]
  refine wpAny_pure ?_
  show wpAny _ _ (mkStr (Builtin.Bytes.literal b) >>= fun v => ret v) _ _ _
  exact wpAny_bind (wpAny_mkStr (wpAny_pure h) (by rw [sizeLine_eq]; omega))
theorem repr_under {base : Nat} {Q : Value → Shared → Prop} (hb : b.size ≤ 1000) (h : Q (.str (Builtin.Bytes.literal b) s.toks) { s with toks := s.toks + 1 }) :
    wpAny (model prog w) A (pyReprObjUnder base (.bytes b t)) Q E s := by
  have hT := typeIs_bytes' s b t
  unfold pyReprObjUnder pyReprObjBy
  simp only [cRoomFor, show [Value.bytes b t].any Value.onHeap = false from rfl, Bool.false_eq_true, if_false, pure_bind]
  refine wpAny_bind (wpAny_specialOf (name := Str.ofString "__repr__") hT slot_bytes_repr.lookup ?_)
  have fin : wpAny (model prog w) A (call (.builtin "bytes.__repr__") ([Value.bytes b t] ++ []) >>= fun v => pure (some v)) (fun r s' => wpAny (model prog w) A (match r with
      | some r => do if ← isInstance r (.type "str") then pure r else raiseError "TypeError" s!"__repr__ returned non-string (type {← typeNameOf r})"
      | none => unsupported "repr:special-get-raises") Q E s') E s :=
    wpAny_bind (wpAny_mono (wpAny_call_entry (Q := fun v s' => v = .str (Builtin.Bytes.literal b) s.toks ∧ s' = { s with toks := s.toks + 1 }) slot_bytes_repr hT entry_bytes_repr (repr_entry hb ⟨_, rfl, rfl, rfl⟩) (args_bytes_repr _)) (fun v s' h' => by
      obtain ⟨rfl, rfl⟩ := h'
      exact wpAny_pure (wpAny_bind (wpAny_isInstance (T := "str") (b := true) rfl isSubtype_str_str (wpAny_pure h)))) fun _ _ h' => h')
  refine wpAny_bind ?_
  simp only [callSpecialIfBoundBy?, bindSpecialIfBound?]
  refine wpAny_holding (wpAny_bind (wpAny_bind (wpAny_specialOf hT slot_bytes_repr.lookup ?_)))
  simp only [slot_bytes_repr.bind]
  refine wpAny_bind (wpAny_askSetting (wpAny_ite ?_))
  split
  · exact wpAny_bind (wpAny_pure (wpAny_pure fin))
  · exact wpAny_tryCatch (wpAny_bind (wpAny_pure (wpAny_pure fin)))
end
def msgOf (l : PySem.Str) (n e v : Int) : PySem.Str :=
  l ++ Str.ofString " (len " ++ Str.ofString (toString n) ++ Str.ofString " != " ++ Str.ofString (toString e) ++ Str.ofString ") is not permitted as an IPv" ++ Str.ofString (toString v) ++ Str.ofString " address"
theorem neg_text : ∀ k : Fin 100, (Str.ofString (toString (-((k.val : Int) + 1)))).cps.toList = 45 :: (Str.ofString (toString ((k.val : Int) + 1))).cps.toList := by decide +kernel
theorem pos_short : ∀ k : Fin 100, (Str.ofString (toString (-((k.val : Int) + 1)))).length ≤ 10 := by decide +kernel
theorem int_textS (c : Builtin.Str.Percent) (h1 : c.alt = false) (h2 : c.type = 100 ∨ c.type = 105 ∨ c.type = 117) (h3 : c.prec = none) {n : Int} (hn : -100 ≤ n) (hm : n < 100) : Builtin.Str.percentInt c (decide (n < 0)) (Str.ofString (toString ((n.natAbs : Nat) : Int))).cps.toList = (Str.ofString (toString n)).cps.toList := by
  by_cases h : 0 ≤ n
  · rw [KPc.int_text c h1 h2 h3 h, Int.natAbs_of_nonneg h]
  · have hneg : decide (n < 0) = true := decide_eq_true (by omega)
    have hk : (-n - 1).toNat < 100 := by omega
    have e := neg_text ⟨(-n - 1).toNat, hk⟩
    have e1 : -((((-n - 1).toNat : Nat) : Int) + 1) = n := by omega
    have e2 : ((((-n - 1).toNat : Nat) : Int) + 1) = ((n.natAbs : Nat) : Int) := by omega
    simp only [e1] at e
    simp only [e2] at e
    rw [e]
    unfold Builtin.Str.percentInt
    rcases h2 with h2 | h2 | h2 <;> simp [h1, h2, h3, hneg]
theorem toString_lenS {n : Int} (hn : -100 ≤ n) (hm : n < 100) : (Str.ofString (toString n)).length ≤ 10 := by
  by_cases h : 0 ≤ n
  · exact toString_length_le (k := 10) h (by decide) (by omega)
  · have hk : (-n - 1).toNat < 100 := by omega
    have e := pos_short ⟨(-n - 1).toNat, hk⟩
    have e1 : -((((-n - 1).toNat : Nat) : Int) + 1) = n := by omega
    simp only [e1] at e
    exact e
section
open Builtin.Str KPc
variable {M : Model} {A : Around} {E : Value → Shared → Prop} {s : Shared} {l : List Nat} {p : List Value} {r : List Nat}
  {f : Nat → List Value × Writer × List Nat → Sem (ForInStep (List Value × Writer × List Nat))} {Q : List Value × Writer × List Nat → Shared → Prop}
  {w : Writer} {T x y : PySem.Str} {N K : Nat} {o : Option Value}
theorem after_intS {c : Percent} {n : Int} {d : List Nat} (g : KPc.Good w T N) (h1 : c.alt = false) (h2 : c.type = 100 ∨ c.type = 105 ∨ c.type = 117) (h3 : c.prec = none) (hn : -100 ≤ n) (hm : n < 100)
    (hd : d = (PySem.Str.ofString (toString ((n.natAbs : Nat) : Int))).cps.toList) (ho : o = none) (h : ∀ w', KPc.Good w' (T ++ PySem.Str.ofString (toString n)) (N + 10) → wpAny M A (forIn l (p, w', r) f) Q E s) :
    wpAny M A (forIn l (p, w.add ⟨(percentInt c (decide (n < 0)) d).toArray⟩ o, r) f) Q E s := by
  rw [hd, int_textS c h1 h2 h3 hn hm]
  exact KPc.after_str g (toString_lenS hn hm) (KPc.obj_none ho) h
end
local macro_rules | `(tactic| kpt_conv) => `(tactic| (refine wpAny_bind (repr_under (by assumption) ?_); refine wpAny_bind (wpAny_of_eq (a := some _) rfl ?_)))
local macro_rules | `(tactic| kpt_piece) => `(tactic| (refine after_intS (by kpc_g) rfl (by kpc_kind) rfl (by assumption) (by assumption) rfl (by kpc_none) ?_; intro _ _))
local macro_rules | `(tactic| kpt_hd) => `(tactic| exact shown (N := 2 ^ 1920) (by omega) (by omega) (Int.le_refl _))
set_option maxHeartbeats 4000000 in
theorem msg_meets {b : Array UInt8} {t tb tn te tv : Tok} {n e v : Int} {a : Addr} (hb : b.size ≤ 1000) (hl : (Builtin.Bytes.literal b).length ≤ 5000) (hn0 : -100 ≤ n) (hn1 : n < 100) (he0 : -100 ≤ e) (he1 : e < 100) (hv0 : -100 ≤ v) (hv1 : v < 100) :
    Meets (Builtin.«str.__mod__» ⟨[.str ⟨#[37, 114, 32, 40, 108, 101, 110, 32, 37, 100, 32, 33, 61, 32, 37, 100, 41, 32, 105, 115, 32, 110, 111, 116, 32, 112, 101, 114, 109, 105, 116, 116, 101, 100, 32, 97, 115, 32, 97, 110, 32, 73, 80, 118, 37, 100, 32, 97, 100, 100, 114, 101, 115, 115]⟩ t, .ref a], []⟩)
      (fun _ R s => IsTup s.heap a #[.bytes b tb, .int n tn, .int e te, .int v tv] ∧ ∀ t' k, R (.ok (.ret (.str (msgOf (Builtin.Bytes.literal b) n e v) t'))) { s with toks := k }) := by
  kpt_run
theorem fmt_is : Str.ofString "%r (len %d != %d) is not permitted as an IPv%d address" = ⟨#[37, 114, 32, 40, 108, 101, 110, 32, 37, 100, 32, 33, 61, 32, 37, 100, 41, 32, 105, 115, 32, 110, 111, 116, 32, 112, 101, 114, 109, 105, 116, 116, 101, 100, 32, 97, 115, 32, 97, 110, 32, 73, 80, 118, 37, 100, 32, 97, 100, 100, 114, 101, 115, 115]⟩ := by decide +kernel
theorem mod_msg {prog : Program} {w : World} {A : Around} {E : Value → Shared → Prop} {s : Shared} {b : Array UInt8} {t tb tn te tv : Tok} {n e v : Int} {a L : Addr} {c : Nat} {h₀ : Heap} {news : List (Addr × Obj)} {Q : Value → Shared → Prop}
    (N : News h₀ L s.heap news) (hm : (a, ({ cls := .type "tuple", data := .seq #[.bytes b tb, .int n tn, .int e te, .int v tv] c } : Obj)) ∈ news) (hb : b.size ≤ 1000) (hn0 : -100 ≤ n) (hn1 : n < 100) (he0 : -100 ≤ e) (he1 : e < 100) (hv0 : -100 ≤ v) (hv1 : v < 100)
    (h : ∀ t' k, Q (.str (msgOf (Builtin.Bytes.literal b) n e v) t') { s with toks := k }) : wpAny (model prog w) A (binaryOp .Mod (.str (Str.ofString "%r (len %d != %d) is not permitted as an IPv%d address") t) (.ref a)) Q E s :=
  KPt.mod_tuple N hm fmt_is (msg_meets hb (Nat.le_trans (literal_len b) (by omega)) hn0 hn1 he0 he1 hv0 hv1) h
end Mine

namespace Mine
set_option maxRecDepth 100000
open PySem.Calls PySem.Spec PySem.SeqAt
def Okc (x : Str) : Prop := ∀ c ∈ x.cps.toList, c < 0x110000
theorem Okc.add {x y : Str} (hx : Okc x) (hy : Okc y) : Okc (x ++ y) := by
  intro c hc
  rw [Str.cps_append, Array.toList_append, List.mem_append] at hc
  exact hc.elim (hx c) (hy c)
theorem Okc.str (c : String) : Okc (Str.ofString c) := by
  intro n hn
  rw [Str.ofString_eq_toList] at hn
  simp only [List.mem_map] at hn
  obtain ⟨ch, _, rfl⟩ := hn
  have := ch.valid
  rw [UInt32.isValidChar, Nat.isValidChar] at this
  show ch.val.toNat < 0x110000
  omega
theorem canLay_okc {x : Str} (h : Okc x) : PyData.canLay0 (.str x) = true := by
  simp only [PyData.canLay0]
  show x.cps.all (fun c => decide (c < 0x110000)) = true
  rw [← Array.all_toList, List.all_eq_true]
  intro c hc
  exact decide_eq_true (h c hc)
end Mine

namespace Mine
set_option maxRecDepth 100000
open PySem.Calls PySem.Spec
/-- the signs of the bytes between the quotes -/
def enc (q : Nat) (bs : List Nat) : List Nat := bs.flatMap fun c => (shownN q c).toList
def bNats (b : Array UInt8) : List Nat := b.toList.map UInt8.toNat
theorem literal_list (b : Array UInt8) : (Builtin.Bytes.literal b).cps.toList = 98 :: quoteOf b :: (enc (quoteOf b) (bNats b) ++ [quoteOf b]) := by
  rw [literal_is]
  have go : ∀ (q : Nat) (l : List UInt8) (a : Array Nat), (l.foldl (fun acc c => acc ++ shownN q c.toNat) a).toList = a.toList ++ enc q (l.map UInt8.toNat) := by
    intro q l
    induction l with
    | nil => intro a; simp [enc]
    | cons c r ih =>
      intro a
      rw [List.foldl_cons, ih]
      simp [enc]
  simp only [Array.toList_push]
  rw [← Array.foldl_toList, go]
  simp [bNats]
def ItemAt (x : Str) (i : Int) (c : Nat) : Prop := 0 ≤ i ∧ x.cps.toList[i.toNat]? = some c
def DropAt (x : Str) (i : Int) (l : List Nat) : Prop := 0 ≤ i ∧ x.cps.toList.drop i.toNat = l
theorem DropAt.item {x : Str} {i : Int} {c : Nat} {l : List Nat} (h : DropAt x i (c :: l)) : ItemAt x i c := by
  refine ⟨h.1, ?_⟩
  have := congrArg (fun l => l[0]?) h.2
  simpa using this
theorem DropAt.next {x : Str} {i : Int} {c : Nat} {l : List Nat} (h : DropAt x i (c :: l)) : DropAt x (i + 1) l := by
  refine ⟨by have := h.1; omega, ?_⟩
  have e : (i + 1).toNat = i.toNat + 1 := by have := h.1; omega
  have h2 := h.2
  rw [e, ← List.drop_drop, h2]
  rfl
theorem DropAt.next2 {x : Str} {i : Int} {c d : Nat} {l : List Nat} (h : DropAt x i (c :: d :: l)) : DropAt x (i + 2) l := by
  have := h.next.next
  rwa [show i + 1 + 1 = i + 2 by omega] at this
theorem DropAt.next4 {x : Str} {i : Int} {c d e f : Nat} {l : List Nat} (h : DropAt x i (c :: d :: e :: f :: l)) : DropAt x (i + 4) l := by
  have := h.next2.next2
  rwa [show i + 2 + 2 = i + 4 by omega] at this
theorem DropAt.item1 {x : Str} {i : Int} {c d : Nat} {l : List Nat} (h : DropAt x i (c :: d :: l)) : ItemAt x (i + 1) d := h.next.item
theorem DropAt.item2 {x : Str} {i : Int} {c d e : Nat} {l : List Nat} (h : DropAt x i (c :: d :: e :: l)) : ItemAt x (i + 2) e := h.next2.item
theorem DropAt.item3 {x : Str} {i : Int} {c d e f : Nat} {l : List Nat} (h : DropAt x i (c :: d :: e :: f :: l)) : ItemAt x (i + 3) f := by
  have := h.next2.item1
  rwa [show i + 2 + 1 = i + 3 by omega] at this
/-- the number that stands behind a backslash of two signs -/
def esc (e : Nat) : Nat := if e = 116 then 9 else if e = 110 then 10 else if e = 114 then 13 else e
/-- the three ways in which a byte is shown -/
def InTabN (q c : Nat) : Prop := c = 9 ∨ c = 10 ∨ c = 13 ∨ c = 92 ∨ c = q
theorem shown_ways {q c : Nat} (hq : q = 39 ∨ q = 34) (hc : c < 256) :
    (32 ≤ c ∧ c < 127 ∧ c ≠ q ∧ c ≠ 92 ∧ ¬ InTabN q c ∧ (shownN q c).toList = [c]) ∨
    (∃ e, e ≠ 120 ∧ esc e = c ∧ e < 128 ∧ InTabN q c ∧ (shownN q c).toList = [92, e]) ∨
    (¬ (32 ≤ c ∧ c < 127) ∧ ¬ InTabN q c ∧ (shownN q c).toList = [92, 120, hexN (c / 16), hexN (c % 16)]) := by
  unfold InTabN shownN esc
  by_cases h1 : c = q ∨ c = 92
  · right; left
    have e1 : (c == q || c == 92) = true := by simpa using h1
    refine ⟨c, ?_, ?_, ?_, ?_, by rw [if_pos e1]⟩
    · omega
    · rw [if_neg (by omega), if_neg (by omega), if_neg (by omega)]
    · omega
    · omega
  have e1 : ¬ (c == q || c == 92) = true := by simpa using h1
  by_cases h2 : c = 9
  · subst h2; right; left
    exact ⟨116, by decide, by decide, by decide, .inl rfl, by rw [if_neg e1]; rfl⟩
  by_cases h3 : c = 10
  · subst h3; right; left
    exact ⟨110, by decide, by decide, by decide, .inr (.inl rfl), by rw [if_neg e1]; rfl⟩
  by_cases h4 : c = 13
  · subst h4; right; left
    exact ⟨114, by decide, by decide, by decide, .inr (.inr (.inl rfl)), by rw [if_neg e1]; rfl⟩
  have e2 : ¬ (c == 9) = true := by simpa using h2
  have e3 : ¬ (c == 10) = true := by simpa using h3
  have e4 : ¬ (c == 13) = true := by simpa using h4
  rw [if_neg e1, if_neg e2, if_neg e3, if_neg e4]
  by_cases h5 : c < 32 ∨ 127 ≤ c
  · right; right
    have e5 : (decide (c < 32) || decide (c ≥ 127)) = true := by simpa using h5
    refine ⟨by omega, by omega, by rw [if_pos e5]⟩
  · left
    have e5 : ¬ (decide (c < 32) || decide (c ≥ 127)) = true := by simpa using h5
    refine ⟨by omega, by omega, by omega, by omega, by omega, by rw [if_neg e5]⟩
theorem enc_cons (q c : Nat) (r : List Nat) : enc q (c :: r) = (shownN q c).toList ++ enc q r := rfl
end Mine

namespace Mine
set_option maxRecDepth 100000
open PySem.Calls PySem.SeqAt
section
variable {prog : Program} {w : World} {A : Around} {E : Value → Shared → Prop} {s : Shared} {h₀ : Heap} {L l : Addr} {m : Str → Option Value} {news : List (Addr × Obj)} {value slice : PySem.Expr} {x y : Str} {i : Int} {n : Nat} {t u : Tok} {Q : Value → Shared → Prop}
theorem item_is {c : Nat} (h : ItemAt x i c) : i < x.length ∧ Txt.item x i = ⟨#[c]⟩ := by
  obtain ⟨h0, h1⟩ := h
  have hlt : i.toNat < x.cps.toList.length := by
    rcases Nat.lt_or_ge i.toNat x.cps.toList.length with h | h
    · exact h
    · rw [List.getElem?_eq_none h] at h1; cases h1
  have hlen : x.length = x.cps.toList.length := by simp [Str.length]
  have hi : i < x.length := by omega
  refine ⟨hi, ?_⟩
  unfold Txt.item Txt.charAt seqIndex?
  have e0 : ¬ i < 0 := by omega
  simp only [if_neg e0, decide_eq_true h0, decide_eq_true hi, Bool.and_self, if_true, Option.bind_some]
  rw [← Array.getElem?_toList, h1]
  rfl
theorem item6 {c : Nat} (hx : x.length ≤ 1000) (hc : ItemAt x i c) (h : ∀ k, Q (.str ⟨#[c]⟩ s.toks) { s with toks := k })
    (hs : subscripted slice false (.str x t) (.int i u) = operate [.str x t, .int i u] (getItem (.str x t) (.int i u)) := by with_unfolding_all rfl)
    (ht : ∀ r, letTemporaryGo value (.str x t) r = pure () := by intro _; with_unfolding_all rfl) :
    wpAny (model prog w) A (subscriptTail value slice (.str x t) (.int i u)) Q E s := by
  obtain ⟨h1, h2⟩ := item_is hc
  refine item_str (fitsSsize_of (N := 9223372036854775808) (by have := hc.1; omega) (by omega) (Int.le_refl _)) (by have := hc.1; omega) h1 (fun _ => ?_) hs ht
  rw [h2]
  exact h _
theorem ne_sign_t {a b : Nat} (hy : y.cps.toList = [b]) (hab : a ≠ b) (h : Q (.bool true) s) : wpAny (model prog w) A (compareOp .NotEq (.str ⟨#[a]⟩ t) (.str y u)) Q E s := by
  refine PySem.P.ne_str ?_
  have : ((⟨#[a]⟩ : Str).cps.toList != y.cps.toList) = true := by rw [hy]; simpa using hab
  rw [this]; exact h
theorem ne_sign_f {a b : Nat} (hy : y.cps.toList = [b]) (hab : a = b) (h : Q (.bool false) s) : wpAny (model prog w) A (compareOp .NotEq (.str ⟨#[a]⟩ t) (.str y u)) Q E s := by
  refine PySem.P.ne_str ?_
  have : ((⟨#[a]⟩ : Str).cps.toList != y.cps.toList) = false := by rw [hy]; simpa using hab
  rw [this]; exact h
theorem eq_sign {a b : Nat} (hy : y.cps.toList = [b]) (h : Q (.bool (decide (a = b))) s) : wpAny (model prog w) A (compareOp .Eq (.str ⟨#[a]⟩ t) (.str y u)) Q E s := by
  refine PySem.P.eq_str ?_
  have : ((⟨#[a]⟩ : Str).cps.toList == y.cps.toList) = decide (a = b) := by
    rw [hy]
    by_cases hab : a = b
    · simp [hab]
    · simp [hab]
  rw [this]; exact h
theorem eq_sign_t {a b : Nat} (hy : y.cps.toList = [b]) (hab : a = b) (h : Q (.bool true) s) : wpAny (model prog w) A (compareOp .Eq (.str ⟨#[a]⟩ t) (.str y u)) Q E s :=
  eq_sign hy (by rw [decide_eq_true hab]; exact h)
theorem eq_sign_f {a b : Nat} (hy : y.cps.toList = [b]) (hab : a ≠ b) (h : Q (.bool false) s) : wpAny (model prog w) A (compareOp .Eq (.str ⟨#[a]⟩ t) (.str y u)) Q E s :=
  eq_sign hy (by rw [decide_eq_false hab]; exact h)
theorem find_hex : ∀ k : Fin 16, Txt.find (Str.ofString "0123456789abcdef") ⟨#[hexN k.val]⟩ = (k.val : Int) := by decide +kernel
theorem index6 {k : Nat} (hk : k < 16) (hA : A.handled = none) (h : Q (.int (k : Int) s.toks) { s with toks := s.toks + 1 }) :
    wpAny (model prog w) A (call (.builtin "str.index") [.str (Str.ofString "0123456789abcdef") t, .str ⟨#[hexN k]⟩ u]) Q E s := by
  have e := find_hex ⟨k, hk⟩
  simp only at e
  refine index_or hA (fun h0 => ?_) (fun _ _ => ?_)
  · rw [e] at h0; omega
  · rw [e]; exact h
theorem add_hex {c : Nat} (hc : c < 256) (h : ∀ t' k, Q (.int (c : Int) t') { s with toks := k }) : wpAny (model prog w) A (binaryOp .Add (.int (((c / 16 : Nat) : Int) * 16) t) (.int ((c % 16 : Nat) : Int) u)) Q E s := by
  have e : ((c / 16 : Nat) : Int) * 16 + ((c % 16 : Nat) : Int) = (c : Int) := by omega
  refine PyProof.Rows.add_int ?_
  rw [e]; exact h _ _
def escTab : List (PyData × PyData) := [(.str (Str.ofString "t"), .int 9), (.str (Str.ofString "n"), .int 10), (.str (Str.ofString "r"), .int 13)]
theorem look_esc (e : Nat) : ((Spec.lookup (.str ⟨#[e]⟩) escTab).getD (.int (e : Int))) = .int ((esc e : Nat) : Int) := by
  have a1 : ∀ (a b : Str), PySem.Spec.same (.str a) (.str b) = decide (a = b) := PyProof.V.same_str
  have l1 : Str.ofString "t" = ⟨#[116]⟩ := by decide +kernel
  have l2 : Str.ofString "n" = ⟨#[110]⟩ := by decide +kernel
  have l3 : Str.ofString "r" = ⟨#[114]⟩ := by decide +kernel
  have i1 : ∀ a b : Nat, ((⟨#[a]⟩ : Str) = ⟨#[b]⟩) ↔ a = b := by intro a b; simp
  unfold escTab esc
  rw [l1, l2, l3]
  simp only [PySem.Spec.lookup, a1, i1]
  by_cases h1 : e = 116
  · subst h1; simp
  by_cases h2 : e = 110
  · subst h2; simp
  by_cases h3 : e = 114
  · subst h3; simp
  have n1 : ¬ 116 = e := fun x => h1 x.symm
  have n2 : ¬ 110 = e := fun x => h2 x.symm
  have n3 : ¬ 114 = e := fun x => h3 x.symm
  simp [h1, h2, h3, n1, n2, n3]
theorem get6 {d : Addr} {e c : Nat} (T : StrTab prog w s.heap d escTab) (he : esc e = c) (h : ∀ t' k, Q (.int (c : Int) t') { s with toks := k }) :
    wpAny (model prog w) A (call (.builtin "dict.get") [.ref d, .str ⟨#[e]⟩ t, .int (e : Int) u]) Q E s := by
  refine call_get2_strTab T (dd := .int (e : Int)) ?_ fun v hv => ?_
  · exact PyProof.V.Flat.int _ _
  · rw [look_esc, he] at hv
    have hr := hv s.heap
    cases hr
    exact h _ _
theorem in_tab6 {D : Addr} {q c k : Nat} {t1 t2 t3 t4 t5 : Tok} (N : News h₀ L s.heap news) (hm : (D, ({ cls := .type "tuple", data := .seq #[.int 9 t1, .int 10 t2, .int 13 t3, .int 92 t4, .int (q : Int) t5] k } : Obj)) ∈ news)
    (h1 : InTabN q c → Q (.bool true) s) (h2 : ¬ InTabN q c → Q (.bool false) s) : wpAny (model prog w) A (compareOp .In (.int (c : Int) u) (.ref D)) Q E s := by
  have hT : s.heap.IsTuple D #[.int 9 t1, .int 10 t2, .int 13 t3, .int 92 t4, .int (q : Int) t5] := ⟨_, (N _ hm).1, rfl, k, rfl⟩
  refine in_tupleAt (isInt (c : Int)) hT (fun y hy => ?_) ?_
  · simp only [List.mem_toArray, List.mem_cons, List.not_mem_nil, or_false] at hy
    rcases hy with rfl | rfl | rfl | rfl | rfl <;> exact EqAt.int_int _ _ _ _
  · by_cases h : InTabN q c
    · have : (#[.int 9 t1, .int 10 t2, .int 13 t3, .int 92 t4, .int (q : Int) t5] : Array Value).any (isInt (c : Int)) = true := by
        unfold InTabN at h
        simp [isInt]
        omega
      rw [this]; exact h1 h
    · have : (#[.int 9 t1, .int 10 t2, .int 13 t3, .int 92 t4, .int (q : Int) t5] : Array Value).any (isInt (c : Int)) = false := by
        unfold InTabN at h
        simp [isInt]
        omega
      rw [this]; exact h2 h
theorem any_nat (bs : List Nat) (k : Nat) : (bs.map Int.ofNat).any (· == (k : Int)) = bs.contains k := by
  induction bs with
  | nil => rfl
  | cons a r ih =>
    rw [List.map_cons, List.any_cons, ih, List.contains_cons]
    congr 1
    rw [Bool.eq_iff_iff]
    simp
    omega
theorem in6 {vs : List Value} {bs : List Nat} {k : Nat} (N : News h₀ L s.heap news) (hm : (l, listOf vs.toArray n) ∈ news) (hi : IntsAre vs (bs.map Int.ofNat)) (h : Q (.bool (bs.contains k)) s) : wpAny (model prog w) A (compareOp .In (.int (k : Int) t) (.ref l)) Q E s :=
  in_list_ints ⟨_, (N _ hm).1, rfl, n, rfl⟩ hi (by rw [any_nat]; exact h)
theorem notin6 {vs : List Value} {bs : List Nat} {k : Nat} (N : News h₀ L s.heap news) (hm : (l, listOf vs.toArray n) ∈ news) (hi : IntsAre vs (bs.map Int.ofNat)) (h : Q (.bool (!bs.contains k)) s) : wpAny (model prog w) A (compareOp .NotIn (.int (k : Int) t) (.ref l)) Q E s :=
  notin_list_ints ⟨_, (N _ hm).1, rfl, n, rfl⟩ hi (by rw [any_nat]; exact h)
end
end Mine

namespace Mine
set_option maxRecDepth 100000
open PySem.Calls
/-- two numbers differ; said so that no arithmetic line takes it up -/
def Nn (a b : Nat) : Prop := a ≠ b
def Qn (q : Nat) : Prop := q = 39 ∨ q = 34
structure Rd where
  pre : List Nat
  post : List Nat
  vs : List Value
  n : Nat
  k : Int
  tk : Tok
abbrev rdLed (T l : Addr) (oT : Obj) (news : List (Addr × Obj)) (c : Rd) : List (Addr × Obj) := (T, oT) :: (l, listOf c.vs.toArray c.n) :: news
abbrev rdPs (c : Rd) : List (Str × Value) := [(Str.ofString "k", .int c.k c.tk)]
def rdP (x rest : Str) (q : Nat) (bs : List Nat) (c : Rd) : Prop := bs = c.pre ++ c.post ∧ IntsAre c.vs (c.pre.map Int.ofNat) ∧ DropAt x c.k (enc q c.post ++ q :: rest.cps.toList)
def rdM (c : Rd) : Nat := c.post.length
abbrev rdStored : List Str := [Str.ofString "octet", Str.ofString "size"]
section
variable {prog : Program} {w : World} {A : Around} {E : Value → Shared → Prop} {Q : Flow → Shared → Prop} {s : Shared} {env : Env} {h₀ : Heap} {L : Addr} {test : PySem.Expr} {body : List Stmt} {pos : Pos} {m₀ : Str → Option Value} {x rest : Str} {q : Nat} {bs : List Nat} {T l : Addr} {oT : Obj} {news : List (Addr × Obj)}
/-- one turn of the reading loop, from its test on -/
abbrev rdTurn (prog : Program) (w : World) (A : Around) (E : Value → Shared → Prop) (Q : Flow → Shared → Prop) (s : Shared) (env : Env) (h₀ : Heap) (L : Addr) (test : PySem.Expr) (body : List Stmt) (m₀ : Str → Option Value) (x rest : Str) (q : Nat) (bs : List Nat) (T l : Addr) (oT : Obj) (news : List (Addr × Obj)) (c : Rd) (h : Heap) (tk : Nat) : Prop :=
  wpAny (model prog w) A (PySem.isTrue test env (eval test env)) (fun b s₂ =>
    if b = true then wpAny (model prog w) A (execs body env) (KswPost h₀ L s (rdLed T l oT news) rdPs (fun _ => True) rdStored m₀ (rdP x rest q bs) rdM Q c) E s₂ else Q .next s₂) E { s with heap := h, toks := tk }
theorem read_loop {t0 : Tok} (hT : x.cps.toList = 98 :: q :: (enc q bs ++ q :: rest.cps.toList)) (hq : Qn q) (hb : ∀ d ∈ bs, d < 256)
    (F : Fr h₀ L s.heap m₀) (N : News h₀ L s.heap ((T, oT) :: (l, listOf (List.toArray []) 0) :: news)) (hk : m₀ (Str.ofString "k") = some (.int 2 t0))
    (stop : ∀ pre vs n k tk (u : Str → Option Value) h tk', IntsAre vs (bs.map Int.ofNat) → ItemAt x 1 q → ItemAt x k q → DropAt x k (q :: rest.cps.toList) →
      Fr h₀ L h (fun z => if z = Str.ofString "k" then some (.int k tk) else if rdStored.contains z then u z else m₀ z) → News h₀ L h ((T, oT) :: (l, listOf (List.toArray vs) n) :: news) →
      rdTurn prog w A E Q s env h₀ L test body m₀ x rest q bs T l oT news ⟨pre, [], vs, n, k, tk⟩ h tk')
    (plain : ∀ pre post d vs n k tk (u : Str → Option Value) h tk', IntsAre vs (pre.map Int.ofNat) → bs = pre ++ d :: post → ItemAt x 1 q → ItemAt x k d → DropAt x (k + 1) (enc q post ++ q :: rest.cps.toList) → Nn d q → Nn d 92 → ¬ InTabN q d → (32 : Int) ≤ (d : Int) → (d : Int) < 127 →
      Fr h₀ L h (fun z => if z = Str.ofString "k" then some (.int k tk) else if rdStored.contains z then u z else m₀ z) → News h₀ L h ((T, oT) :: (l, listOf (List.toArray vs) n) :: news) →
      rdTurn prog w A E Q s env h₀ L test body m₀ x rest q bs T l oT news ⟨pre, d :: post, vs, n, k, tk⟩ h tk')
    (two : ∀ pre post d e vs n k tk (u : Str → Option Value) h tk', IntsAre vs (pre.map Int.ofNat) → bs = pre ++ d :: post → ItemAt x 1 q → ItemAt x k 92 → ItemAt x (k + 1) e → DropAt x (k + 2) (enc q post ++ q :: rest.cps.toList) → Nn 92 q → Nn e 120 → esc e = d → InTabN q d →
      Fr h₀ L h (fun z => if z = Str.ofString "k" then some (.int k tk) else if rdStored.contains z then u z else m₀ z) → News h₀ L h ((T, oT) :: (l, listOf (List.toArray vs) n) :: news) →
      rdTurn prog w A E Q s env h₀ L test body m₀ x rest q bs T l oT news ⟨pre, d :: post, vs, n, k, tk⟩ h tk')
    (hexl : ∀ pre post d vs n k tk (u : Str → Option Value) h tk', IntsAre vs (pre.map Int.ofNat) → bs = pre ++ d :: post → ItemAt x 1 q → ItemAt x k 92 → ItemAt x (k + 1) 120 → ItemAt x (k + 2) (hexN (d / 16)) → ItemAt x (k + 3) (hexN (d % 16)) → DropAt x (k + 4) (enc q post ++ q :: rest.cps.toList) → Nn 92 q → d / 16 < 16 → d % 16 < 16 → d < 256 → ¬ InTabN q d → ¬ (32 : Int) ≤ (d : Int) →
      Fr h₀ L h (fun z => if z = Str.ofString "k" then some (.int k tk) else if rdStored.contains z then u z else m₀ z) → News h₀ L h ((T, oT) :: (l, listOf (List.toArray vs) n) :: news) →
      rdTurn prog w A E Q s env h₀ L test body m₀ x rest q bs T l oT news ⟨pre, d :: post, vs, n, k, tk⟩ h tk')
    (hexh : ∀ pre post d vs n k tk (u : Str → Option Value) h tk', IntsAre vs (pre.map Int.ofNat) → bs = pre ++ d :: post → ItemAt x 1 q → ItemAt x k 92 → ItemAt x (k + 1) 120 → ItemAt x (k + 2) (hexN (d / 16)) → ItemAt x (k + 3) (hexN (d % 16)) → DropAt x (k + 4) (enc q post ++ q :: rest.cps.toList) → Nn 92 q → d / 16 < 16 → d % 16 < 16 → d < 256 → ¬ InTabN q d → (32 : Int) ≤ (d : Int) → ¬ (d : Int) < 127 →
      Fr h₀ L h (fun z => if z = Str.ofString "k" then some (.int k tk) else if rdStored.contains z then u z else m₀ z) → News h₀ L h ((T, oT) :: (l, listOf (List.toArray vs) n) :: news) →
      rdTurn prog w A E Q s env h₀ L test body m₀ x rest q bs T l oT news ⟨pre, d :: post, vs, n, k, tk⟩ h tk')
    (hE : PassesOwn (model prog w) A env E := by passes_own) :
    wpAny (model prog w) A (exec (.While test body [] pos) env) Q E s := by
  have d2 : DropAt x 2 (enc q bs ++ q :: rest.cps.toList) := ⟨by decide, by rw [hT]; rfl⟩
  have i1 : ItemAt x 1 q := ⟨by decide, by rw [hT]; rfl⟩
  have hq92 : Nn 92 q := by unfold Qn at hq; unfold Nn; omega
  refine ksw_while (rdLed T l oT news) rdPs (fun _ => True) rdStored (rdP x rest q bs) rdM ⟨[], bs, [], 0, 2, t0⟩ F N trivial ?_ ⟨rfl, .nil, d2⟩ ?_ hE
  · intro p hp; cases List.mem_singleton.mp hp; exact hk
  rintro ⟨pre, post, vs, n, k, tk⟩ u h tk' _ ⟨p1, p2, p3⟩ F₁ N₁
  dsimp only at p1 p2 p3 N₁
  have F₂ : Fr h₀ L h (fun z => if z = Str.ofString "k" then some (.int k tk) else if rdStored.contains z then u z else m₀ z) := F₁
  cases post with
  | nil =>
    have p3' : DropAt x k (q :: rest.cps.toList) := p3
    rw [List.append_nil] at p1
    exact stop pre vs n k tk u h tk' (by rw [p1]; exact p2) i1 p3'.item p3' F₂ N₁
  | cons d post =>
    rw [enc_cons, List.append_assoc] at p3
    have hd : d < 256 := hb d (by rw [p1]; simp)
    rcases shown_ways (show q = 39 ∨ q = 34 from hq) hd with ⟨a1, a2, a3, a4, a5, a6⟩ | ⟨e, a1, a2, a3, a4, a5⟩ | ⟨a1, a2, a3⟩
    · rw [a6] at p3
      exact plain pre post d vs n k tk u h tk' p2 p1 i1 p3.item p3.next a3 a4 a5 (by omega) (by omega) F₂ N₁
    · rw [a5] at p3
      exact two pre post d e vs n k tk u h tk' p2 p1 i1 p3.item p3.item1 p3.next2 hq92 a1 a2 a4 F₂ N₁
    · rw [a3] at p3
      by_cases h32 : 32 ≤ d
      · exact hexh pre post d vs n k tk u h tk' p2 p1 i1 p3.item p3.item1 p3.item2 p3.item3 p3.next4 hq92 (by omega) (by omega) hd a2 (by omega) (by omega) F₂ N₁
      · exact hexl pre post d vs n k tk u h tk' p2 p1 i1 p3.item p3.item1 p3.item2 p3.item3 p3.next4 hq92 (by omega) (by omega) hd a2 (by omega) F₂ N₁
theorem ne6_t {Q : Value → Shared → Prop} {y : Str} {t u : Tok} {a b : Nat} (hy : y.cps.toList = [b]) (hab : Nn a b) (h : Q (.bool true) s) : wpAny (model prog w) A (compareOp .NotEq (.str ⟨#[a]⟩ t) (.str y u)) Q E s := ne_sign_t hy hab h
theorem eq6_f {Q : Value → Shared → Prop} {y : Str} {t u : Tok} {a b : Nat} (hy : y.cps.toList = [b]) (hab : Nn a b) (h : Q (.bool false) s) : wpAny (model prog w) A (compareOp .Eq (.str ⟨#[a]⟩ t) (.str y u)) Q E s := eq_sign_f hy hab h
theorem neb6 {Q : Value → Shared → Prop} {a b : Bool} (hab : a = b) (h : Q (.bool false) s) : wpAny (model prog w) A (compareOp .NotEq (.bool a) (.bool b)) Q E s := by
  refine PyProof.Rows.ne_bool ?_
  subst hab
  rw [bne_self_eq_false]
  exact h
theorem nb_a {q : Nat} {x y : Bool} (h : decide (q = 34) = (x && !y)) (hx : x = true) : decide (q = 34) = !y := by rw [h, hx]; rfl
theorem nb_b {q : Nat} {x y : Bool} (h : decide (q = 34) = (x && !y)) (hx : x = false) : decide (q = 34) = false := by rw [h, hx]; rfl
theorem nb_c {q : Nat} {x y : Bool} (h : decide (q = 34) = (x && !y)) (hx : x = false) : decide (q = 34) = x := by rw [h, hx]; rfl
theorem nb_d {q : Nat} {x y : Bool} (h : decide (q = 34) = (x && !y)) : decide (q = 34) = (x && !y) := h
theorem rd_not {z : Str} (h : rdStored.contains z = false) : z ≠ Str.ofString "octet" ∧ z ≠ Str.ofString "size" := by
  simpa [rdStored] using h
theorem slice_is {i : Int} {c : Nat} (hd : DropAt x i (c :: rest.cps.toList)) : Txt.slice x (some (i + 1)) none = rest := by
  have hn := hd.next
  have hi := (item_is hd.item).1
  have hlen : x.length = x.cps.toList.length := by simp [Str.length]
  rw [slice_from_eq (b := x.length) hn.1 (by omega) rfl, hn.2]
  have hl : rest.cps.toList.length = x.cps.toList.length - (i + 1).toNat := by rw [← hn.2, List.length_drop]
  rw [List.take_of_length_le (by have := hn.1; omega)]
theorem news_mid {h : Heap} {p q r : Addr × Obj} {l : List (Addr × Obj)} (N : News h₀ L h (p :: q :: r :: l)) : News h₀ L h (p :: r :: l) := fun x hx => N x (by
  rcases List.mem_cons.mp hx with rfl | hx
  · exact .head _
  · exact .tail _ (.tail _ hx))
theorem pre_len {pre post : List Nat} {d : Nat} {vs : List Value} (hI : IntsAre vs (pre.map Int.ofNat)) (hbs : bs = pre ++ d :: post) (hl : bs.length ≤ 16) : vs.toArray.size ≤ sizeLine := by
  have h1 := hI.length
  rw [List.length_map] at h1
  rw [hbs, List.length_append] at hl
  rw [List.size_toArray, h1, sizeLine_eq]; omega
theorem read_end {pre post : List Nat} {d n n' : Nat} {vs : List Value} {k k' : Int} {t t1 t0 : Tok} {m' : Str → Option Value} {h' : Heap} {tk : Nat} {news' : List (Addr × Obj)}
    (F : Fr h₀ L h' m') (N : News h₀ L h' news') (h1 : (T, oT) ∈ news') (h2 : (l, listOf (vs.toArray.push (.int (d : Int) t)) n') ∈ news') (h3 : ∀ p ∈ news, p ∈ news') (hk : m' (Str.ofString "k") = some (.int k' t1))
    (hr : ∀ z, (∀ p ∈ [(Str.ofString "k", Value.int k' t1)], z ≠ p.1) → rdStored.contains z = false → m' z = m₀ z) (hI : IntsAre vs (pre.map Int.ofNat)) (hbs : bs = pre ++ d :: post) (hd : DropAt x k' (enc q post ++ q :: rest.cps.toList)) :
    KswEnd h₀ L s (rdLed T l oT news) rdPs (fun _ => True) rdStored m₀ (rdP x rest q bs) rdM ⟨pre, d :: post, vs, n, k, t0⟩ { s with heap := h', toks := tk } := by
  refine ksw_end ⟨pre ++ [d], post, vs ++ [.int (d : Int) t], n', k', t1⟩ F N (fun p hp => ?_) trivial (fun p hp => ?_) hr ⟨?_, ?_, hd⟩ ?_
  · rcases List.mem_cons.mp hp with rfl | hp
    · exact h1
    rcases List.mem_cons.mp hp with rfl | hp
    · have e : (vs ++ [Value.int (d : Int) t]).toArray = vs.toArray.push (.int (d : Int) t) := by simp
      dsimp only
      rw [e]
      exact h2
    · exact h3 p hp
  · cases List.mem_singleton.mp hp; exact hk
  · rw [hbs]; simp
  · rw [List.map_append]
    exact hI.append (.cons _ _ .nil)
  · show post.length < (d :: post).length
    simp
end
end Mine

namespace Mine
set_option maxRecDepth 100000
open PySem.Calls PySem.W.KTBy
open PySem.Builtin.Int (intBits)
/-- the number that a row of bytes makes in base 256, the greatest first -/
def toldOf (l : List Int) (a : Int) : Int := l.foldl (fun a d => a * 256 + d) a
theorem toldOf_append (l r : List Int) (a : Int) : toldOf (l ++ r) a = toldOf r (toldOf l a) := by unfold toldOf; rw [List.foldl_append]
theorem told_little : ∀ (n : Nat) (x : Int), 0 ≤ x → x < 256 ^ n → toldOf (little n x).reverse 0 = x
  | 0, x, h0, h1 => by
    rw [Int.pow_zero] at h1
    have : x = 0 := by omega
    subst this
    rfl
  | n + 1, x, h0, h1 => by
    show toldOf (x % 256 :: little n (x / 256)).reverse 0 = x
    rw [List.reverse_cons, toldOf_append]
    rw [Int.pow_succ] at h1
    have h2 : x / 256 < 256 ^ n := by omega
    rw [told_little n (x / 256) (by omega) h2]
    show x / 256 * 256 + x % 256 = x
    omega
def Packed (b : Array UInt8) (k : Nat) (x : Int) : Prop := b.size = k ∧ toldOf ((bNats b).map Int.ofNat) 0 = x
theorem args1 (a b : Value) : argsOk "int.to_bytes" ⟨[a, b], []⟩ := by unfold argsOk; kernel_rfl
theorem bInts_nats (b : Array UInt8) : KBw.bInts b = (bNats b).map Int.ofNat := by
  unfold bNats
  rw [List.map_map]
  rfl
section
variable {prog : Program} {w : World} {A : Around} {E : Value → Shared → Prop} {s : Shared} {x B : Int} {k : Nat} {t u : Tok}
theorem to_big1 {Q : Value → Shared → Prop} (hk : k ≤ 100) (hB : (256 : Int) ^ k = B) (h0 : 0 ≤ x) (h1 : x < B) (h : ∀ (b : Array UInt8) t' k', Packed b k x → Q (.bytes b t') { s with toks := k' }) :
    wpAny (model prog w) A (call (.builtin "int.to_bytes") [.int x t, .int (k : Int) u]) Q E s := by
  refine wpAny_call_entry slot (typeIs_int s x t) entry ?_ (args1 _ _)
  have hb := bits_le hB h0 h1
  have h1' : x < 256 ^ k := by rw [hB]; exact h1
  show wpAny _ _ (Builtin.Int.intOfSelf (.int x t) >>= fun y => _) _ _ s
  refine wpAny_bind (wpAny_of_eq (a := x) rfl ?_)
  show wpAny _ _ (Builtin.Int.intBindNamed "to_bytes" ["length", "byteorder", "signed"] 0 2 [.int (k : Int) u] [] >>= fun l => _) _ _ s
  refine wpAny_bind (wpAny_of_eq (a := [some (.int (k : Int) u), none, none]) (by kernel_rfl) ?_)
  show wpAny _ _ (Builtin.Int.intIndex "int.to_bytes" (.int (k : Int) u) >>= fun n => _) _ _ s
  refine wpAny_bind (wpAny_of_eq (a := (k : Int)) rfl ?_)
  refine if_not (by show (decide ((k : Int) < -(2 ^ 63 : Int)) || decide ((k : Int) ≥ 2 ^ 63)) = false; rw [decide_eq_false (show ¬ ((k : Int) < -(2 ^ 63 : Int)) by omega), decide_eq_false (show ¬ ((k : Int) ≥ 2 ^ 63) by omega)]; rfl) ?_
  refine wpAny_bind (wpAny_of_eq (a := PySem.Str.ofString "big") (by kernel_rfl) ?_)
  refine wpAny_bind (wpAny_of_eq (a := false) rfl ?_)
  refine wpAny_bind (wpAny_of_eq (a := false) (by kernel_rfl) ?_)
  refine wpAny_ite_false (decide_eq_false (show ¬ ((k : Int) < 0) by omega)) ?_
  refine wpAny_ite_false (decide_eq_false (show ¬ ((k : Int) > 2 ^ 63 - 1 - 33) by omega)) ?_
  refine wpAny_ite_false (decide_eq_false (show ¬ ((k : Int) > (sizeLine : Int)) by rw [sizeLine_eq]; omega)) ?_
  refine if_not (by show (decide (x < 0) && !false) = false; rw [decide_eq_false (show ¬ x < 0 by omega)]; rfl) ?_
  refine if_not (by show (_ && decide ((intBits x : Int) > 8 * (k : Int))) = false; rw [decide_eq_false (show ¬ ((intBits x : Int) > 8 * (k : Int)) by omega), Bool.and_false]) ?_
  have hlen : (List.reverse (low x (Int.toNat (k : Int)))).length = k := by rw [List.length_reverse, low_length, Int.toNat_natCast]
  refine wpAny_bind (wpAny_mkBytes (wpAny_pure ⟨_, rfl, h _ _ _ ⟨?_, ?_⟩⟩) (by show (List.reverse (low x (Int.toNat (k : Int)))).length ≤ sizeLine; rw [hlen, sizeLine_eq]; omega))
  · show (List.reverse (low x (Int.toNat (k : Int)))).toArray.size = k
    rw [List.size_toArray, hlen]
  · rw [← bInts_nats]
    have e : (List.map (fun c : UInt8 => ((c.toNat : Nat) : Int)) (List.reverse (low x (Int.toNat (k : Int))))) = (little k x).reverse := by
      rw [Int.toNat_natCast, List.map_reverse, low_ints h0 h1', ← little_eq]
    show toldOf (List.map (fun c : UInt8 => ((c.toNat : Nat) : Int)) (List.reverse (low x (Int.toNat (k : Int))))) 0 = x
    rw [e]
    exact told_little k x h0 h1'
end
end Mine

namespace Mine
set_option maxRecDepth 100000
open PySem.Calls
def InPow (k : Nat) (x : Int) : Prop := 0 ≤ x ∧ x < 256 ^ k
section
variable {prog : Program} {w : World} {A : Around} {E : Value → Shared → Prop} {h : Heap} {g : _} {d : _} {tk : Nat} {o : _} {Q : Value → Shared → Prop} {t u : Tok} {y : Int}
theorem mod_pow {e k : Nat} (hk : (2 : Int) ^ e = 256 ^ k) (H : ∀ num t' tk', InPow k num → Q (.int num t') (Shared.mk h g d tk' o)) :
    wpAny (model prog w) A (binaryOp .Mod (.int y t) (.int (2 ^ e) u)) Q E (Shared.mk h g d tk o) := by
  have h0 : (0 : Int) < 2 ^ e := Int.pow_pos (by decide)
  refine PyProof.Rows.mod_int (by omega) ?_
  exact H _ _ _ ⟨Int.fmod_nonneg_of_pos _ h0, by rw [← hk]; exact Int.fmod_lt_of_pos _ h0⟩
theorem pow4 : (2 : Int) ^ (Int.toNat 32) = 256 ^ 4 := by decide
theorem pow16 : (2 : Int) ^ (Int.toNat 128) = 256 ^ 16 := by decide
theorem mod_pow4 (H : ∀ num t' tk', InPow 4 num → Q (.int num t') (Shared.mk h g d tk' o)) :
    wpAny (model prog w) A (binaryOp .Mod (.int y t) (.int (2 ^ Int.toNat 32) u)) Q E (Shared.mk h g d tk o) := mod_pow pow4 H
theorem mod_pow16 (H : ∀ num t' tk', InPow 16 num → Q (.int num t') (Shared.mk h g d tk' o)) :
    wpAny (model prog w) A (binaryOp .Mod (.int y t) (.int (2 ^ Int.toNat 128) u)) Q E (Shared.mk h g d tk o) := mod_pow pow16 H
theorem to_b4 (hp : InPow 4 y) (H : ∀ b t' tk', Packed b 4 y → Q (.bytes b t') (Shared.mk h g d tk' o)) :
    wpAny (model prog w) A (call (.builtin "int.to_bytes") [.int y t, .int 4 u]) Q E (Shared.mk h g d tk o) := to_big1 (k := 4) (by decide) rfl hp.1 hp.2 H
theorem to_b16 (hp : InPow 16 y) (H : ∀ b t' tk', Packed b 16 y → Q (.bytes b t') (Shared.mk h g d tk' o)) :
    wpAny (model prog w) A (call (.builtin "int.to_bytes") [.int y t, .int 16 u]) Q E (Shared.mk h g d tk o) := to_big1 (k := 16) (by decide) rfl hp.1 hp.2 H
theorem len4 {b : Array UInt8} (hp : Packed b 4 y) (H : ∀ t' tk', Q (.int 4 t') (Shared.mk h g d tk' o)) : wpAny (model prog w) A (call (.builtin "len") [.bytes b t]) Q E (Shared.mk h g d tk o) := by
  refine PySem.W.len_bytes (by rw [hp.1]; decide) ?_
  rw [hp.1]
  exact H _ _
theorem len16 {b : Array UInt8} (hp : Packed b 16 y) (H : ∀ t' tk', Q (.int 16 t') (Shared.mk h g d tk' o)) : wpAny (model prog w) A (call (.builtin "len") [.bytes b t]) Q E (Shared.mk h g d tk o) := by
  refine PySem.W.len_bytes (by rw [hp.1]; decide) ?_
  rw [hp.1]
  exact H _ _
theorem packed_le {b : Array UInt8} {k : Nat} (hp : Packed b k y) (hk : k ≤ 1000) : b.size ≤ 1000 := by rw [hp.1]; exact hk
end
section
open PyProof.Rows.TI PyProof.Rows.TLg
theorem pick5 {h₀ h : Heap} {L : Addr} {e1 e2 e3 e4 e5 e6 e7 e8 e9 : Addr × Obj} (N : News h₀ L h [e1, e2, e3, e4, e5, e6, e7, e8, e9]) : News h₀ L h [e1, e6, e7, e8, e9] := fun p hp => N p (by
  simp only [List.mem_cons, List.not_mem_nil, or_false] at hp ⊢
  rcases hp with rfl | rfl | rfl | rfl | rfl <;> simp)
def CutL {α : Type} (full new : List α) (p : α) : Prop := full = new ++ [p]
theorem CutL.cons {α : Type} {full new : List α} {p x : α} (h : CutL full new p) : CutL (x :: full) (x :: new) p := by unfold CutL at *; rw [h]; rfl
theorem CutL.done {α : Type} {new : List α} {p : α} : CutL (new ++ [p]) new p := rfl
theorem leave6 {P : Prop} {s' : Shared} {full new : List (Addr × Obj)} {h₀ : Heap} {L L' : Addr} {m m' : Str → Option Value} {oL : Obj} (C : Caller h₀ L m oL) (F' : Fr h₀ L' s'.heap m') (N' : News h₀ L' s'.heap full) (hc : CutL full new (L, oL)) (hne : AllNe L new)
    (k : Fr h₀ L s'.heap m → News h₀ L s'.heap new → P) : TI.LeaveI s' P := by
  unfold CutL at hc
  subst hc
  exact leave_back (sl := oL.slots) C F' N' hne k
end
end Mine

namespace Mine
set_option maxRecDepth 100000
theorem news_ne {h₀ h : Heap} {L a b : Addr} {oa ob : Obj} {all : List (Addr × Obj)} (N : News h₀ L h all) (ha : (a, oa) ∈ all) (hb : (b, ob) ∈ all) (h1 : oa.cls ≠ ob.cls) : a ≠ b := fun e => by
  subst e
  have := Option.some.inj ((N _ ha).1.symm.trans (N _ hb).1)
  exact h1 (by rw [show oa = ob from this])
theorem upd2 {h₀ h : Heap} {L e t t' D c : Addr} {oX tX o' : Obj} {its : Array Value} {n : Nat} {vs : List Value} {rest rest' : List (Addr × Obj)} (N : News h₀ L h ((e, oX) :: (t, tX) :: rest)) (xA : ExcObj oX (.ref c) t') (tA : TupObj tX vs)
    (U : Upd D (listOf its n) o' rest rest') : Upd D (listOf its n) o' ((e, oX) :: (t, tX) :: rest) ((e, oX) :: (t, tX) :: rest') := by
  obtain ⟨pre, post, h1, _, _, _⟩ := U.split
  have hm : (D, listOf its n) ∈ rest := by rw [h1]; exact List.mem_append_right _ (.head _)
  refine Upd.tail (news_ne N (.head _) (.tail _ (.tail _ hm)) ?_) (Upd.tail (news_ne N (.tail _ (.head _)) (.tail _ (.tail _ hm)) ?_) U)
  · rw [xA.cls_]; intro h; cases h
  · rw [tA.cls_]; show ¬ (Value.type "tuple" = Value.type "list"); simp
theorem unrw_end {h₀ : Heap} {L I : Addr} {it : Obj} {p0 p1 p2 p3 : Addr × Obj} {led : List (Addr × Obj)} {rest : (Str → Option Value) → List (Addr × Obj) → Prop} {s₁ : Shared} {h' : Heap} {tk : Nat} {m' : Str → Option Value}
    (F : Fr h₀ L h' m') (N : News h₀ L h' (p0 :: p1 :: p2 :: (I, it) :: p3 :: led)) (hlt : AllLt I (p3 :: led)) (r : rest m' (p3 :: led)) : UnrEndW h₀ L s₁ [(I, it)] (fun m' n' => SubL [p3] n' ∧ rest m' n') { s₁ with heap := h', toks := tk } := by
  refine ⟨h', tk, m', p3 :: led, rfl, F, fun p hp => N p (.tail _ (.tail _ (.tail _ hp))), fun p hp q hq => ?_, ⟨.head _, trivial⟩, r⟩
  cases List.mem_singleton.mp hq
  exact Nat.ne_of_lt (kst_ltOf hlt p hp)
end Mine

namespace Mine
set_option maxRecDepth 100000
open PySem.Calls PySem.SeqAt
def hd6 (l : Str) (n e : Int) : Str :=
  l ++ Str.ofString " (len " ++ Str.ofString (toString n) ++ Str.ofString " != " ++ Str.ofString (toString e) ++ Str.ofString ") is not permitted as an IPv"
theorem msg_hd (l : Str) (n e v : Int) : msgOf l n e v = hd6 l n e ++ Str.ofString (toString v) ++ Str.ofString " address" := rfl
theorem msg_six (l : Str) (n e : Int) : hd6 l n e ++ Str.ofString "6 address" = msgOf l n e 6 := by
  rw [msg_hd, Str.append_assoc]
  congr 1
theorem toList_app (a b : Str) : (a ++ b).cps.toList = a.cps.toList ++ b.cps.toList := by rw [Str.cps_append, Array.toList_append]
theorem str_ext {a b : Str} (h : a.cps.toList = b.cps.toList) : a = b := by
  cases a; cases b; simp only [Str.mk.injEq]; exact Array.toList_inj.mp h
theorem len_list (x : Str) : x.length = x.cps.toList.length := by simp [Str.length]
theorem lit_front (b : Array UInt8) : ∃ r, (Builtin.Bytes.literal b).cps.toList = 98 :: quoteOf b :: r := ⟨_, literal_list b⟩
theorem msg_front (b : Array UInt8) (n e v : Int) : ∃ r, (msgOf (Builtin.Bytes.literal b) n e v).cps.toList = 98 :: quoteOf b :: r := by
  obtain ⟨r, hr⟩ := lit_front b
  unfold msgOf
  simp only [toList_app, hr, List.cons_append]
  exact ⟨_, rfl⟩
theorem slice_two (b : Array UInt8) (n e v : Int) : Txt.slice (msgOf (Builtin.Bytes.literal b) n e v) none (some 2) = ⟨#[98, quoteOf b]⟩ := by
  obtain ⟨r, hr⟩ := msg_front b n e v
  have hl : (2 : Int) ≤ (msgOf (Builtin.Bytes.literal b) n e v).length := by rw [len_list, hr]; simp only [List.length_cons]; omega
  have h := beq_iff_eq.mp (slice_closes_toL (x := msgOf (Builtin.Bytes.literal b) n e v) (j := 2) (by decide) hl)
  rw [h, hr]
  rfl
theorem slice_nine (l : Str) (n e : Int) : Txt.slice (msgOf l n e 4) none (some (-9)) = hd6 l n e := by
  have e4 : (Str.ofString (toString (4 : Int))).cps.toList = [52] := by decide +kernel
  have e8 : (Str.ofString " address").cps.toList = [32, 97, 100, 100, 114, 101, 115, 115] := by decide +kernel
  have hm : (msgOf l n e 4).cps.toList = (hd6 l n e).cps.toList ++ [52, 32, 97, 100, 100, 114, 101, 115, 115] := by
    rw [msg_hd, toList_app, toList_app, e4, e8, List.append_assoc]; rfl
  have hl : (msgOf l n e 4).length = (hd6 l n e).cps.toList.length + 9 := by rw [len_list, hm, List.length_append]; rfl
  have h := beq_iff_eq.mp (slice_closes_to_neg (x := msgOf l n e 4) (j := -9) (k := ((hd6 l n e).cps.toList.length : Int)) (by decide) (by rw [hl]; omega) (by rw [hl]; omega))
  rw [h, hm]
  refine str_ext ?_
  simp only [Int.toNat_zero, List.drop_zero, Int.sub_zero, Int.toNat_natCast, List.take_left']
structure Small (n : Int) : Prop where
  lo : -100 ≤ n
  hi : n < 100
theorem msg_len {b : Array UInt8} {n e v : Int} (hb : b.size ≤ 16) (hn : Small n) (he : Small e) (hv : Small v) : (msgOf (Builtin.Bytes.literal b) n e v).length ≤ 1000 := by
  have h1 := literal_len b
  have h2 := toString_lenS hn.lo hn.hi
  have h3 := toString_lenS he.lo he.hi
  have h4 := toString_lenS hv.lo hv.hi
  have l1 : (Str.ofString " (len ").length = 6 := by decide +kernel
  have l2 : (Str.ofString " != ").length = 4 := by decide +kernel
  have l3 : (Str.ofString ") is not permitted as an IPv").length = 28 := by decide +kernel
  have l4 : (Str.ofString " address").length = 8 := by decide +kernel
  unfold msgOf
  simp only [strLen_append, l1, l2, l3, l4]
  omega
theorem hd_len {b : Array UInt8} {n e : Int} (hb : b.size ≤ 16) (hn : Small n) (he : Small e) : (hd6 (Builtin.Bytes.literal b) n e).length ≤ 1000 := by
  have h1 := literal_len b
  have h2 := toString_lenS hn.lo hn.hi
  have h3 := toString_lenS he.lo he.hi
  have l1 : (Str.ofString " (len ").length = 6 := by decide +kernel
  have l2 : (Str.ofString " != ").length = 4 := by decide +kernel
  have l3 : (Str.ofString ") is not permitted as an IPv").length = 28 := by decide +kernel
  unfold hd6
  simp only [strLen_append, l1, l2, l3]
  omega
def due6 (n e : Int) : Str := Str.ofString " (len " ++ Str.ofString (toString n) ++ Str.ofString " != " ++ Str.ofString (toString e) ++ Str.ofString ") is not permitted as an IPv4 address"
theorem msg_read (b : Array UInt8) (n e : Int) : (msgOf (Builtin.Bytes.literal b) n e 4).cps.toList = 98 :: quoteOf b :: (enc (quoteOf b) (bNats b) ++ quoteOf b :: (due6 n e).cps.toList) := by
  have e4 : (Str.ofString (toString (4 : Int))).cps.toList = [52] := by decide +kernel
  have e8 : (Str.ofString ") is not permitted as an IPv4 address").cps.toList = (Str.ofString ") is not permitted as an IPv").cps.toList ++ ([52] ++ (Str.ofString " address").cps.toList) := by decide +kernel
  unfold msgOf due6
  simp only [toList_app, literal_list, e8, e4, List.cons_append, List.append_assoc, List.nil_append]
theorem contains_nats (b : Array UInt8) (c : UInt8) : b.contains c = (bNats b).contains c.toNat := by
  unfold bNats
  rw [← Array.contains_toList]
  induction b.toList with
  | nil => rfl
  | cons a r ih =>
    rw [List.map_cons, List.contains_cons, List.contains_cons, ih]
    congr 1
    rw [Bool.eq_iff_iff, beq_iff_eq, beq_iff_eq]
    exact ⟨fun h => by rw [h], fun h => UInt8.toNat_inj.mp h⟩
theorem quote_says (b : Array UInt8) : decide (quoteOf b = 34) = ((bNats b).contains 39 && !(bNats b).contains 34) := by
  have h1 := contains_nats b 39
  have h2 := contains_nats b 34
  rw [show (39 : UInt8).toNat = 39 from rfl] at h1
  rw [show (34 : UInt8).toNat = 34 from rfl] at h2
  rw [← h1, ← h2]
  unfold quoteOf
  cases h : (b.contains 39 && !b.contains 34) <;> simp
theorem nats_lt (b : Array UInt8) : ∀ d ∈ bNats b, d < 256 := by
  intro d hd
  unfold bNats at hd
  obtain ⟨c, _, rfl⟩ := List.mem_map.mp hd
  exact c.toNat_lt
theorem nats_len {b : Array UInt8} {k : Nat} {y : Int} (hp : Packed b k y) : (bNats b).length = k := by
  unfold bNats
  rw [List.length_map, Array.length_toList]
  exact hp.1
section
variable {prog : Program} {w : World} {A : Around} {E : Value → Shared → Prop} {s : Shared} {h₀ : Heap} {L : Addr} {m : Str → Option Value} {news : List (Addr × Obj)} {value slice : PySem.Expr} {Q : Value → Shared → Prop} {b : Array UInt8} {k : Nat} {y n e v : Int} {t u uj : Tok}
theorem sl2 (hF : Fr h₀ L s.heap m) (hN : News h₀ L s.heap news) (hp : Packed b k y) (hk : k ≤ 16) (hn : Small n) (he : Small e) (hv : Small v)
    (h : ∀ h' t' k', Fr h₀ L h' m → News h₀ L h' news → Q (.str ⟨#[98, quoteOf b]⟩ t') { s with heap := h', toks := k' })
    (hs : subscripted slice false (.str (msgOf (Builtin.Bytes.literal b) n e v) t) (.ref s.heap.objs.size) = operate [.ref s.heap.objs.size, .str (msgOf (Builtin.Bytes.literal b) n e v) t] (getItem (.str (msgOf (Builtin.Bytes.literal b) n e v) t) (.ref s.heap.objs.size)) := by with_unfolding_all rfl)
    (ht : ∀ r, letTemporaryGo value (.str (msgOf (Builtin.Bytes.literal b) n e v) t) r = pure () := by intro _; with_unfolding_all rfl) :
    wpAny (model prog w) A (subscriptTail value slice (.str (msgOf (Builtin.Bytes.literal b) n e v) t) (.ref s.heap.objs.size)) Q E { s with heap := s.heap.push { cls := .type "slice", data := .fields #[.none, .int 2 uj, .none] } } := by
  have hl := msg_len (b := b) (by rw [hp.1]; exact hk) hn he hv
  refine slice_strN_ns hF hN (fun h' t' k' F' N' => ?_) hs ht (by rw [sizeLine_eq]; omega)
  rw [slice_two]
  exact h h' t' k' F' N'
theorem sl9 (hF : Fr h₀ L s.heap m) (hN : News h₀ L s.heap news) (hp : Packed b k y) (hk : k ≤ 16) (hn : Small n) (he : Small e)
    (h : ∀ h' t' k', Fr h₀ L h' m → News h₀ L h' news → Q (.str (hd6 (Builtin.Bytes.literal b) n e) t') { s with heap := h', toks := k' })
    (hs : subscripted slice false (.str (msgOf (Builtin.Bytes.literal b) n e 4) t) (.ref s.heap.objs.size) = operate [.ref s.heap.objs.size, .str (msgOf (Builtin.Bytes.literal b) n e 4) t] (getItem (.str (msgOf (Builtin.Bytes.literal b) n e 4) t) (.ref s.heap.objs.size)) := by with_unfolding_all rfl)
    (ht : ∀ r, letTemporaryGo value (.str (msgOf (Builtin.Bytes.literal b) n e 4) t) r = pure () := by intro _; with_unfolding_all rfl) :
    wpAny (model prog w) A (subscriptTail value slice (.str (msgOf (Builtin.Bytes.literal b) n e 4) t) (.ref s.heap.objs.size)) Q E { s with heap := s.heap.push { cls := .type "slice", data := .fields #[.none, .int (-9) uj, .none] } } := by
  have hl := msg_len (b := b) (by rw [hp.1]; exact hk) hn he (v := 4) ⟨by decide, by decide⟩
  refine slice_strN_ns hF hN (fun h' t' k' F' N' => ?_) hs ht (by rw [sizeLine_eq]; omega)
  rw [slice_nine]
  exact h h' t' k' F' N'
theorem lit_bq : Str.ofString "b'" = ⟨#[98, 39]⟩ := by decide +kernel
theorem lit_bd : Str.ofString "b\"" = ⟨#[98, 34]⟩ := by decide +kernel
theorem nin2 {D : Addr} {t1 t2 : Tok} {c : Nat} (N : News h₀ L s.heap news) (hm : (D, ({ cls := .type "tuple", data := .seq #[.str (Str.ofString "b'") t1, .str (Str.ofString "b\"") t2] c } : Obj)) ∈ news) (h : Q (.bool false) s) :
    wpAny (model prog w) A (compareOp .NotIn (.str ⟨#[98, quoteOf b]⟩ u) (.ref D)) Q E s := by
  refine notin_tuple_strs (ys := [Str.ofString "b'", Str.ofString "b\""]) (News.isTup N hm) (.cons _ _ (.cons _ _ .nil)) ?_
  have : (!([Str.ofString "b'", Str.ofString "b\""].any (· == (⟨#[98, quoteOf b]⟩ : Str)))) = false := by
    rw [lit_bq, lit_bd]
    rcases quoteOf_two b with hq | hq <;> rw [hq] <;> decide +kernel
  rw [this]; exact h
theorem add_six (hp : Packed b k y) (hk : k ≤ 16) (hn : Small n) (he : Small e) (h : ∀ t' k', Q (.str (msgOf (Builtin.Bytes.literal b) n e 6) t') { s with toks := k' }) :
    wpAny (model prog w) A (binaryOp .Add (.str (hd6 (Builtin.Bytes.literal b) n e) t) (.str (Str.ofString "6 address") u)) Q E s := by
  have hl := hd_len (b := b) (by rw [hp.1]; exact hk) hn he
  have l9 : (Str.ofString "6 address").length = 9 := by decide +kernel
  refine PyProof.Rows.add_str (fun t' k' => ?_) (by rw [l9, sizeLine_eq]; omega)
  rw [msg_six]
  exact h t' k'
theorem ne_same {x : Str} (h : Q (.bool false) s) : wpAny (model prog w) A (compareOp .NotEq (.str x t) (.str x u)) Q E s := by
  refine PySem.P.ne_str ?_
  rw [bne_self_eq_false]; exact h
end
end Mine

namespace Mine
set_option maxRecDepth 100000
open PySem.Calls PySem.SeqAt
theorem told_step {pre : List Int} {a d : Int} (h : a = toldOf pre 0) : a * 256 + d = toldOf (pre ++ [d]) 0 := by
  rw [toldOf_append, ← h]
  rfl
theorem canLay_trip {x : Str} {n y : Int} (hx : Okc x) : PyData.canLay0 (.tuple [PyData.int n, PyData.int y, PyData.str x]) = true := by
  have h1 := canLay_okc hx
  simp only [PyData.canLay0, PyData.canLayAll0, Bool.and_eq_true] at *
  exact ⟨trivial, trivial, h1, trivial⟩
theorem shaped_trip {x : Str} {n y : Int} (hx : Okc x) : shaped (.tuple [PyData.int n, PyData.int y, PyData.str x]) = true := by
  show (PyData.canLay0 (.tuple [PyData.int n, PyData.int y, PyData.str x]) && decide (PyData.depth (.tuple [PyData.int n, PyData.int y, PyData.str x]) ≤ 64)) = true
  rw [Bool.and_eq_true]
  exact ⟨canLay_trip hx, by simp [PyData.depth, PyData.depthAll]⟩
theorem ne_trip {prog : Program} {w : World} {A : Around} {E : Value → Shared → Prop} {s : Shared} {a b : Addr} {Q : Value → Shared → Prop} {x x' : Str} {n y : Int} {u v z u' v' z' : Tok} {c d : Nat} {h₀ : Heap} {L : Addr} {news : List (Addr × Obj)} (N : News h₀ L s.heap news)
    (ha : (a, ({ cls := .type "tuple", data := .seq #[.int n u, .int y v, .str x z] c } : Obj)) ∈ news) (hb : (b, ({ cls := .type "tuple", data := .seq #[.int n u', .int y v', .str x' z'] d } : Obj)) ∈ news) (hx : Okc x) (he : x' = x) (hu : A.units + 64 < cLine) (h : Q (.bool false) s) :
    wpAny (model prog w) A (compareOp .NotEq (.ref a) (.ref b)) Q E s := by
  subst he
  refine ne_dataH (Reads.tuple (N _ ha).1 rfl rfl (ReadsAll.cons (Reads.int n u) (ReadsAll.cons (Reads.int y v) (ReadsAll.cons (Reads.str x' z) ReadsAll.nil)))) (Reads.tuple (N _ hb).1 rfl rfl (ReadsAll.cons (Reads.int n u') (ReadsAll.cons (Reads.int y v') (ReadsAll.cons (Reads.str x' z') ReadsAll.nil)))) (shaped_trip hx) (shaped_trip hx) hu ?_
  rw [eqv_refl _ (canLay_trip hx)]
  exact h
theorem due_4 : Str.ofString " (len 4 != 16) is not permitted as an IPv4 address" = due6 4 (20 - 4) := by decide +kernel
theorem due_16 : Str.ofString " (len 16 != 4) is not permitted as an IPv4 address" = due6 16 (20 - 16) := by decide +kernel
theorem okc_due (n e : Int) : Okc (due6 n e) := ((((Okc.str _).add (.str _)).add (.str _)).add (.str _)).add (.str _)
theorem ne_4 {prog : Program} {w : World} {A : Around} {E : Value → Shared → Prop} {s : Shared} {a b : Addr} {Q : Value → Shared → Prop} {n y : Int} {u v z u' v' z' : Tok} {c d : Nat} {h₀ : Heap} {L : Addr} {news : List (Addr × Obj)} {p : Array UInt8} (_hp : Packed p 4 y) (N : News h₀ L s.heap news)
    (ha : (a, ({ cls := .type "tuple", data := .seq #[.int n u, .int y v, .str (due6 4 (20 - 4)) z] c } : Obj)) ∈ news) (hb : (b, ({ cls := .type "tuple", data := .seq #[.int n u', .int y v', .str (Str.ofString " (len 4 != 16) is not permitted as an IPv4 address") z'] d } : Obj)) ∈ news) (hu : A.units + 64 < cLine) (h : Q (.bool false) s) :
    wpAny (model prog w) A (compareOp .NotEq (.ref a) (.ref b)) Q E s := ne_trip N ha hb (okc_due _ _) due_4 hu h
theorem ne_16 {prog : Program} {w : World} {A : Around} {E : Value → Shared → Prop} {s : Shared} {a b : Addr} {Q : Value → Shared → Prop} {n y : Int} {u v z u' v' z' : Tok} {c d : Nat} {h₀ : Heap} {L : Addr} {news : List (Addr × Obj)} {p : Array UInt8} (_hp : Packed p 16 y) (N : News h₀ L s.heap news)
    (ha : (a, ({ cls := .type "tuple", data := .seq #[.int n u, .int y v, .str (due6 16 (20 - 16)) z] c } : Obj)) ∈ news) (hb : (b, ({ cls := .type "tuple", data := .seq #[.int n u', .int y v', .str (Str.ofString " (len 16 != 4) is not permitted as an IPv4 address") z'] d } : Obj)) ∈ news) (hu : A.units + 64 < cLine) (h : Q (.bool false) s) :
    wpAny (model prog w) A (compareOp .NotEq (.ref a) (.ref b)) Q E s := ne_trip N ha hb (okc_due _ _) due_16 hu h
theorem len_oct4 {prog : Program} {w : World} {A : Around} {E : Value → Shared → Prop} {s : Shared} {h₀ : Heap} {L l : Addr} {news : List (Addr × Obj)} {vs : List Value} {c : Nat} {b : Array UInt8} {y : Int} {Q : Value → Shared → Prop} (hp : Packed b 4 y) (hI : IntsAre vs ((bNats b).map Int.ofNat))
    (N : News h₀ L s.heap news) (hm : (l, listOf vs.toArray c) ∈ news) (h : Q (.int 4 (s.toks + 1)) { s with toks := s.toks + 1 + 1 }) : wpAny (model prog w) A (call (.builtin "len") [.ref l]) Q E s :=
  kst_len (k := 4) N hm (by rw [hI.length, List.length_map, nats_len hp]) (by decide) h
theorem len_oct16 {prog : Program} {w : World} {A : Around} {E : Value → Shared → Prop} {s : Shared} {h₀ : Heap} {L l : Addr} {news : List (Addr × Obj)} {vs : List Value} {c : Nat} {b : Array UInt8} {y : Int} {Q : Value → Shared → Prop} (hp : Packed b 16 y) (hI : IntsAre vs ((bNats b).map Int.ofNat))
    (N : News h₀ L s.heap news) (hm : (l, listOf vs.toArray c) ∈ news) (h : Q (.int 16 (s.toks + 1)) { s with toks := s.toks + 1 + 1 }) : wpAny (model prog w) A (call (.builtin "len") [.ref l]) Q E s :=
  kst_len (k := 16) N hm (by rw [hI.length, List.length_map, nats_len hp]) (by decide) h
theorem told_all {b : Array UInt8} {k : Nat} {y a : Int} (hp : Packed b k y) (h : a = toldOf ((bNats b).map Int.ofNat) 0) : a = y := h.trans hp.2
end Mine

namespace Mine
local macro_rules | `(tactic| k_room) => `(tactic| ktr_room)
local macro_rules | `(tactic| k_units) => `(tactic| ktr_units)
theorem lit_bs : (Str.ofString "\\").cps.toList = [92] := by decide +kernel
theorem lit_x : (Str.ofString "x").cps.toList = [120] := by decide +kernel
theorem lit_dq : (Str.ofString "\"").cps.toList = [34] := by decide +kernel
local macro_rules | `(tactic| walk_at "exec While Compare") => `(tactic| k_extra "Mine.r0")
local macro_rules | `(tactic| walk_at "subscriptTail") => `(tactic| k_extra "Mine.r1")
local macro_rules | `(tactic| walk_at "compareOp NotEq str str") => `(tactic| k_extra "Mine.r2")
local macro_rules | `(tactic| walk_at "compareOp In int ref") => `(tactic| k_extra "Mine.r3")
local macro_rules | `(tactic| walk_at "call builtin:list.append") => `(tactic| k_extra "Mine.r4")
local macro_rules | `(tactic| walk_at "KswEnd") => `(tactic| k_extra "Mine.r5")
local macro_rules | `(tactic| walk_at "compareOp Eq str str") => `(tactic| k_extra "Mine.r6")
local macro_rules | `(tactic| walk_at "compareOp In int ref") => `(tactic| k_extra "Mine.r7")
local macro_rules | `(tactic| walk_at "compareOp NotIn int ref") => `(tactic| k_extra "Mine.r8")
local macro_rules | `(tactic| walk_at "compareOp NotEq bool bool") => `(tactic| k_extra "Mine.r9")
local macro_rules | `(tactic| walk_at "ite") => `(tactic| k_extra "Mine.r10")
local macro_rules | `(tactic| walk_at "call builtin:str.index") => `(tactic| k_extra "Mine.r11")
local macro_rules | `(tactic| walk_at "binaryOp Add int int") => `(tactic| k_extra "Mine.r12")
theorem gen_toks {α : Type} {prog : Program} {w : World} {A : Around} {t : Sem α} {Q : α → Shared → Prop} {E : Value → Shared → Prop} {h : Heap} {g : _} {d : _} {k : _} {o : _} (H : ∀ tk, wpAny (model prog w) A t Q E (Shared.mk h g d tk o)) : wpAny (model prog w) A t Q E (Shared.mk h g d k o) := H k
local macro_rules | `(tactic| walk_at "execs nil") => `(tactic| k_extra "Mine.r13")
local macro_rules | `(tactic| walk_at "execs cons") => `(tactic| k_extra "Mine.r14")
theorem esc_tab {prog : Program} {w : World} {h₀ h : Heap} {L d : Addr} {news : List (Addr × Obj)} {o : Obj} {t0 t1 t2 t3 t4 t5 : Tok} (N : News h₀ L h news) (hp : (d, o) ∈ news) (lo : (d == sysModules) = false)
    (hd : o.IsDictOf (PySem.strKind prog w) (strPairs [(Value.str (Str.ofString "t") t0, Value.int 9 t1), (Value.str (Str.ofString "n") t2, Value.int 10 t3), (Value.str (Str.ofString "r") t4, Value.int 13 t5)]))
    (hf : PyProof.V.FlatPairs PyData.str (strPairs [(Value.str (Str.ofString "t") t0, Value.int 9 t1), (Value.str (Str.ofString "n") t2, Value.int 10 t3), (Value.str (Str.ofString "r") t4, Value.int 13 t5)]) (strData [(Value.str (Str.ofString "t") t0, Value.int 9 t1), (Value.str (Str.ofString "n") t2, Value.int 10 t3), (Value.str (Str.ofString "r") t4, Value.int 13 t5)])) :
    StrTab prog w h d escTab := TabAt.ofNews N hp lo hd hf
local macro_rules | `(tactic| walk_at "call builtin:dict.get") => `(tactic| k_extra "Mine.r15")
set_option maxRecDepth 100000 in
set_option maxHeartbeats 8000000 in
theorem read_c {w : World} {mean : ExcName → Option Value} {mg mb : Str → Option Value} {news : List (Addr × Obj)}
    (tx rest : Str) (tt : Tok) {q : Nat} {bs : List Nat} (hX : tx.length ≤ 1000) (hT : tx.cps.toList = 98 :: q :: (enc q bs ++ q :: rest.cps.toList)) (hq : Qn q) (hb : ∀ d ∈ bs, d < 256) (hl : bs.length ≤ 16) (hqb : decide (q = 34) = (bs.contains 39 && !bs.contains 34))
    {dp un : Nat} {gd : Option (List Code)} {cn : Str} {cs : Scope} {a : Addr} {ccd : Value} {cl : List (Str × Addr)} {outer : List Env} {A₀ : Around} {base h₀ : Heap} {L : Addr} {m : Str → Option Value} {s : Shared} {Q E : Value → Shared → Prop}
    (B : Below A₀ base outer h₀) (F : Fr h₀ L s.heap m) (X : (hd.heap_39 w.params).In h₀) (N : News h₀ L s.heap news) (T : Top hd.view_39 (looseW hd.view_39 [Str.ofString "_IPAddressBase", Str.ofString "_BaseConstants"]) mean mg mb h₀) (hk : cs.kind = .function)
    (hd1 : dp + 3 < recursionLimit) (hu : un + 8 < cLine)
    
    (ret : ∀ (T l : Addr) (vs : List Value) (n k : Nat) (t' : Tok) (h' : Heap) (tk' : Nat), Fr h₀ L h' m → News h₀ L h' ((T, ({ cls := .type "tuple", data := .seq #[.ref l, .str rest t'] k } : Obj)) :: (l, listOf vs.toArray n) :: news) → IntsAre vs (bs.map Int.ofNat) → Q (.ref T) { s with heap := h', toks := tk' }) :
    wpAny (model Challenge.rw_dm0179_06.row.prog w) (ktrTop dp un gd cn cs L a ccd cl outer) (call (.ref 197) [.str tx tt]) Q E s := by
  revert X; k_fill; intro X
  w_on
  have hMk9 := kstMark
  k_with_none
  (k_with "Mine.r0" => (
      k_here
      (rename Fr _ _ _ _ => lF'); (rename News _ _ _ _ => lN')
      (with_unfolding_all refine' read_loop ?hr0hT ?hr0hq ?hr0hb lF' lN' ?hr0hk ?_ ?_ ?_ ?_ ?_)
      (case hr0hT => assumption); (case hr0hq => assumption); (case hr0hb => assumption); (case hr0hk => rfl)
      (all_goals (try clear lF' lN'))
      (all_goals (intros; show wpAny _ _ _ _ _ _))
      (all_goals (try k_fold)); skip))
  (k_with "Mine.r1" => (k_here; (with_reducible show wpAny _ _ (subscriptTail _ _ (Value.str _ _) (Value.int _ _)) _ _ _); (refine item6 (by assumption) (by assumption) ?_); intro _; (try dsimp only)))
  (k_with "Mine.r2" => (k_here; (with_reducible show wpAny _ _ (compareOp CmpOp.NotEq (Value.str ⟨#[_]⟩ _) (Value.str _ _)) _ _ _); first | (refine ne_sign_f (by first | exact lit_bs | exact rfl) rfl ?_) | (refine ne6_t (by first | exact lit_bs | exact rfl) (by assumption) ?_)))
  (k_with "Mine.r3" => (k_here; (with_reducible show wpAny _ _ (compareOp CmpOp.In (Value.int _ _) (Value.ref _)) _ _ _); k_dflt (refine' in_tab6 ?hr3itN ?hr3itm ?_ ?_; (case hr3itN => k_asm); (case hr3itm => k_mem)) <;> (intro hInT; first | exact absurd hInT (by assumption) | exact absurd (by assumption) hInT | skip)))
  (k_with "Mine.r4" => (k_here; (k_dflt (show wpAny _ _ (call (Value.builtin _) [Value.ref _, Value.int _ _]) _ _ _)); k_dflt (refine' append_K ?hr4apF ?hr4apN ?hr4apU ?_ ?hr4apz; (case hr4apF => k_asm); (case hr4apN => k_asm); (case hr4apU => k_upd); (case hr4apz => exact pre_len (by assumption) (by assumption) (by assumption)); k_whole); intro h' F' N'; (try k_sweep)))
  (k_with "Mine.r5" => ((rename News _ _ _ _ => nE9); k_dflt (refine' read_end (by assumption) nE9 ?hr5re1 ?hr5re2 ?hr5re3 ?hr5rek ?hr5rer ?hr5reI ?hr5reb ?hr5red; (case hr5re1 => k_mem); (case hr5re2 => k_mem); (case hr5re3 => (intro p hp; repeat' (first | exact hp | refine List.Mem.tail _ ?_))); (case hr5reb => assumption); (case hr5rek => rfl); (case hr5rer => (intro z h2 h3; have a1 : z ≠ Str.ofString "k" := h2 _ (List.Mem.head _); have a2 := rd_not h3; simp only [if_neg a1, if_neg a2.1, if_neg a2.2, h3, Bool.false_eq_true, if_false])); (case hr5reI => assumption); (case hr5red => assumption))))
  (k_with "Mine.r6" => (k_here; (with_reducible show wpAny _ _ (compareOp CmpOp.Eq (Value.str ⟨#[_]⟩ _) (Value.str _ _)) _ _ _); first | (refine eq_sign_t lit_x rfl ?_) | (refine eq6_f lit_x (by assumption) ?_) | (refine eq_sign lit_dq ?_)))
  (k_with "Mine.r7" => (k_here; (with_reducible show wpAny _ _ (compareOp CmpOp.In (Value.int 39 _) (Value.ref _)) _ _ _); k_dflt (refine' in6 (k := 39) ?hr7inN ?hr7inm ?hr7ini ?_; (case hr7inN => k_asm); (case hr7inm => k_mem); (case hr7ini => assumption))))
  (k_with "Mine.r8" => (k_here; (with_reducible show wpAny _ _ (compareOp CmpOp.NotIn (Value.int 34 _) (Value.ref _)) _ _ _); k_dflt (refine' notin6 (k := 34) ?hr8niN ?hr8nim ?hr8nii ?_; (case hr8niN => k_asm); (case hr8nim => k_mem); (case hr8nii => assumption))))
  (k_with "Mine.r9" => (k_here; refine neb6 (by first | exact nb_a (by assumption) (by assumption) | exact nb_b (by assumption) (by assumption) | exact nb_c (by assumption) (by assumption) | exact nb_d (by assumption)) ?_))
  (k_with "Mine.r10" => (k_here; first | (with_reducible refine PySem.W.ite_neg Bool.false_ne_true ?_) | (with_reducible refine PySem.W.ite_pos rfl ?_) ))
  (k_with "Mine.r11" => (k_here; (k_dflt (show wpAny _ _ (call (Value.builtin _) [Value.str _ _, Value.str ⟨#[hexN _]⟩ _]) _ _ _)); (k_dflt (refine index6 (by assumption) (by rfl) ?_)); (try dsimp only)))
  (k_with "Mine.r12" => (k_here; (with_reducible show wpAny _ _ (binaryOp Operator.Add (Value.int (((_ / 16 : Nat) : Int) * 16) _) (Value.int ((_ % 16 : Nat) : Int) _)) _ _ _); (refine add_hex (by assumption) ?_); intro _ _; (try dsimp only)))
  (k_with "Mine.r13" => (k_here; (try dsimp only); refine gen_toks ?_; intro _; refine wpAny_execs_nil ?_))
  (k_with "Mine.r14" => (k_here; (try dsimp only); refine gen_toks ?_; intro _; refine wpAny_execs_cons ?_))
  (k_with "Mine.r15" => (k_here; (k_dflt (show wpAny _ _ (call (Value.builtin _) [Value.ref _, Value.str ⟨#[_]⟩ _, Value.int _ _]) _ _ _)); k_dflt (refine' get6 ?hr15gtT ?hr15gte ?_; (case hr15gtT => (rename News _ _ _ _ => nG; rename Obj.IsDictOf _ _ _ => dG; rename PyProof.V.FlatPairs _ _ _ => fG; exact esc_tab nG (List.Mem.head _) (by assumption) dG fG)); (case hr15gte => assumption)); intro _ _; (try dsimp only)))
  w_strict (
  refine wpAny_call ?_
  (k_dflt cell_enter)
  (try k_gentoks)
  k_steps
  skip)
  all_goals (rename DropAt _ _ _ => hD; rename News _ _ _ _ => kN; rw [slice_is hD] at kN; exact ret _ _ _ _ _ _ _ _ (by assumption) (news_mid kN) (by assumption))
end Mine

namespace Mine
theorem read_p {w : World} {mean : ExcName → Option Value} {mg mb : Str → Option Value} {news : List (Addr × Obj)} {b : Array UInt8} {k : Nat} {y n e : Int} {tt : Tok}
    (hp : Packed b k y) (hk16 : k ≤ 16) (hn : Small n) (he : Small e)
    {dp un : Nat} {gd : Option (List Code)} {cn : Str} {cs : Scope} {a : Addr} {ccd : Value} {cl : List (Str × Addr)} {outer : List Env} {A₀ : Around} {base h₀ : Heap} {L : Addr} {m : Str → Option Value} {s : Shared} {Q E : Value → Shared → Prop}
    (B : Below A₀ base outer h₀) (F : Fr h₀ L s.heap m) (X : (hd.heap_39 w.params).In h₀) (N : News h₀ L s.heap news) (T : Top hd.view_39 (looseW hd.view_39 [Str.ofString "_IPAddressBase", Str.ofString "_BaseConstants"]) mean mg mb h₀) (hk : cs.kind = .function)
    (hd1 : dp + 3 < recursionLimit) (hu : un + 8 < cLine)
    (ret : ∀ (T l : Addr) (vs : List Value) (n' k' : Nat) (t' : Tok) (h' : Heap) (tk' : Nat), Fr h₀ L h' m → News h₀ L h' ((T, ({ cls := .type "tuple", data := .seq #[.ref l, .str (due6 n e) t'] k' } : Obj)) :: (l, listOf vs.toArray n') :: news) → IntsAre vs ((bNats b).map Int.ofNat) → Q (.ref T) { s with heap := h', toks := tk' }) :
    wpAny (model Challenge.rw_dm0179_06.row.prog w) (ktrTop dp un gd cn cs L a ccd cl outer) (call (.ref 197) [.str (msgOf (Builtin.Bytes.literal b) n e 4) tt]) Q E s :=
  read_c _ (due6 n e) tt (msg_len (by rw [hp.1]; exact hk16) hn he ⟨by decide, by decide⟩) (msg_read b n e) (quoteOf_two b) (nats_lt b) (by rw [nats_len hp]; exact hk16) (quote_says b) B F X N T hk hd1 hu ret
end Mine

namespace Mine
local macro_rules | `(tactic| walk_at "exec For") => `(tactic| k_extra "Mine.l0")
local macro_rules | `(tactic| walk_at "pyIter ref") => `(tactic| k_extra "Mine.l1")
local macro_rules | `(tactic| walk_at "binaryOp Mod int int") => `(tactic| k_extra "Mine.l2")
local macro_rules | `(tactic| walk_at "call builtin:int.to_bytes") => `(tactic| k_extra "Mine.l3")
local macro_rules | `(tactic| walk_at "call builtin:len") => `(tactic| k_extra "Mine.l4")
local macro_rules | `(tactic| walk_at "binaryOp Mod str ref") => `(tactic| k_extra "Mine.l5")
local macro_rules | `(tactic| walk_at "noteFrame ref") => `(tactic| k_extra "Mine.l6")
local macro_rules | `(tactic| walk_at "call type:type") => `(tactic| k_extra "Mine.l7")
local macro_rules | `(tactic| walk_at "call type:str") => `(tactic| k_extra "Mine.l8")
local macro_rules | `(tactic| walk_at "LeaveI") => `(tactic| k_extra "Mine.l9")
local macro_rules | `(tactic| walk_at "pyIter ref") => `(tactic| k_extra "Mine.l10")
local macro_rules | `(tactic| walk_at "call builtin:list.append") => `(tactic| k_extra "Mine.l11")
local macro_rules | `(tactic| walk_at "compareOp IsNot ref ref") => `(tactic| k_extra "Mine.l12")
local macro_rules | `(tactic| walk_at "UnrEndW") => `(tactic| k_extra "Mine.l13")
local macro_rules | `(tactic| walk_at "subscriptTail Subscript") => `(tactic| k_extra "Mine.l14")
local macro_rules | `(tactic| walk_at "compareOp NotIn str ref") => `(tactic| k_extra "Mine.l15")
local macro_rules | `(tactic| walk_at "binaryOp Add str str") => `(tactic| k_extra "Mine.l16")
local macro_rules | `(tactic| walk_at "compareOp NotEq str str") => `(tactic| k_extra "Mine.l17")
local macro_rules | `(tactic| walk_at "call ref") => `(tactic| k_extra "Mine.l18")
local macro_rules | `(tactic| walk_at "exec For Name Name cons nil") => `(tactic| k_extra "Mine.l19")
local macro_rules | `(tactic| walk_at "pyIter ref") => `(tactic| k_extra "Mine.l20")
local macro_rules | `(tactic| walk_at "InvEndN") => `(tactic| k_extra "Mine.l21")
local macro_rules | `(tactic| walk_at "call builtin:len") => `(tactic| k_extra "Mine.l22")
local macro_rules | `(tactic| walk_at "compareOp NotEq ref ref") => `(tactic| k_extra "Mine.l23")
set_option maxRecDepth 100000 in
set_option maxHeartbeats 40000000 in
theorem walked : PySem.Challenge.rw_dm0179_06.Holds := by
  refine hd ?_
  k_with_none
  (k_with "Mine.l0" => (k_here; (with_reducible show wpAny _ _ (exec (Stmt.For _ (Expr.BinOp _ _ _ _) _ _ _) _) _ _ _); (rename Fr _ _ _ _ => lF'); (with_unfolding_all refine' For_invVF lF' ?hl0k1 ?hl0k2 ?_; (case hl0k1 => exact rfl); (case hl0k2 => exact rfl); k_whole)))
  (k_with "Mine.l1" => (
      k_here
      (with_reducible show wpAny _ _ (pyIter (Value.ref _)) (fun it s₂ => LoopAtV _ _ _ _ _ _ _ _ _ it s₂) _ _)
      (rename Fr _ _ _ _ => lF'); (rename News _ _ _ _ => lN0); (have lN' := pick5 lN0); (clear lN0); (repeat (rename And (@LT.lt Nat _ _ _) _ => l9; clear l9))
      (with_unfolding_all refine' kst_listL (σ := Unit) (fun _ => _) (fun _ => []) (fun _ => True) [Str.ofString "number", Str.ofString "size", Str.ofString "packed", Str.ofString "texts", Str.ofString "thing", Str.ofString "error", Str.ofString "octets", Str.ofString "behind", Str.ofString "told", Str.ofString "octet", Str.ofString "due"] (fun _ _ => True) () (by rfl) (fun _ => ?hl1k0) ?hl1k1 lF' lN' trivial (fun _ h => nomatch h) trivial ?_ ?_)
      (case hl1k0 => k_mem); (case hl1k1 => assumption)
      (all_goals (try clear lF' lN'))
      rotate_left
      (intro _ kU kH kTk kFacts kInv kFr kNews)
      rotate_left
      (intro _ kPre kPost kN kT kU kH kTk kOwn kEq kMem kOff kFacts kInv kFr kNews); (clear kEq)
      (simp only [List.cons_append, List.nil_append] at kNews)
      (dsimp only [kstB] at kFr)
      (have hMk9 := kstMark)
      (all_goals (try k_fold))))
  (k_with "Mine.l2" => (k_here; (try dsimp only); first | (with_reducible refine mod_pow4 ?_) | (with_reducible refine mod_pow16 ?_); intro num t' tk' hNum))
  (k_with "Mine.l3" => (k_here; (try dsimp only); (k_dflt (first | (refine to_b4 (by assumption) ?_) | (refine to_b16 (by assumption) ?_))); intro b' t' tk' hPk))
  (k_with "Mine.l4" => (k_here; (k_dflt (show wpAny _ _ (call (Value.builtin "len") [Value.bytes _ _]) _ _ _)); (try dsimp only); (k_dflt (first | (refine len4 (by assumption) ?_) | (refine len16 (by assumption) ?_))); intro t' tk'))
  (k_with "Mine.l5" => (k_here; (with_reducible show wpAny _ _ (binaryOp Operator.Mod (Value.str _ _) (Value.ref _)) _ _ _); k_dflt (refine' mod_msg ?hl5mmN ?hl5mmm ?hl5mmb ?hl5mm1 ?hl5mm2 ?hl5mm3 ?hl5mm4 ?hl5mm5 ?hl5mm6 ?_; (case hl5mmN => k_asm); (case hl5mmm => k_mem); (case hl5mmb => exact packed_le (by assumption) (by decide)); (case hl5mm1 => decide); (case hl5mm2 => decide); (case hl5mm3 => decide); (case hl5mm4 => decide); (case hl5mm5 => decide); (case hl5mm6 => decide)); intro _ _; (try dsimp only)))
  (k_with "Mine.l6" => (k_here; (rename RaisedS _ _ _ _ _ _ _ _ _ => rsX); kts_caught; (rename Got _ _ _ _ _ => gX); (rename News _ _ _ _ => nX); (obtain ⟨oX, tX, hEX, hTX, nM⟩ := got_merge (by assumption) gX nX); clear nX gX))
  (k_with "Mine.l7" => (k_here; (with_reducible show wpAny _ _ (call (Value.type "type") [Value.ref _]) _ _ _); (rename Got _ _ _ _ _ => gX); (rename News _ _ _ _ => nX); (obtain ⟨oX, tX, hEX, hTX, nM⟩ := got_merge (by assumption) gX nX); clear nX gX; (rename News _ _ _ _ => nM); k_dflt (refine' own_typeK nM ?hl7m ?hl7h ?hl7b ?_; (case hl7m => k_mem); (case hl7h => assumption); (case hl7b => rfl))))
  (k_with "Mine.l8" => (k_here; (with_reducible show wpAny _ _ (call (Value.type "str") [Value.ref _]) _ _ _); k_dflt (refine' own_strK ?hl8F ?hl8X ?hl8N ?hl8m ?hl8h ?hl8m2 ?hl8h2 ?hl8sub ?hl8hs ?hl8hu ?_; (case hl8F => k_asm); (case hl8X => k_asm); (case hl8N => k_asm); (case hl8m => k_mem); (case hl8h => assumption); (case hl8m2 => k_mem); (case hl8h2 => assumption); (case hl8sub => kernel_rfl); (case hl8hs => kernel_rfl); (case hl8hu => k_units))))
  (k_with "Mine.l9" => (k_here; (with_reducible rename TI.Caller _ _ _ _ => tiC'); (rename News _ _ _ _ => nT); (rename Fr _ _ _ _ => fT); (rename And (@Ne Nat _ _) _ => tiE'); k_dflt (refine' leave6 ?hl9lvA ?hl9lvF ?hl9lvN ?hl9lvC ?hl9lvE ?_; (case hl9lvA => exact tiC'); (case hl9lvN => exact nT); (case hl9lvF => exact fT); (case hl9lvC => repeat' (first | exact CutL.done | refine' CutL.cons ?_)); (case hl9lvE => exact tiE')); clear tiC' tiE' nT fT; intro F' N'; (try clear tiF'); (try k_sweep)))
  (k_with "Mine.l10" => (k_here; (with_reducible show wpAny _ _ (pyIter (Value.ref _)) (fun it s₂ => TurnsAt _ _ _ _ _ _ _ _ _ it s₂) _ _); (rename Fr _ _ _ _ => lF'); (rename News _ _ _ _ => lN'); (with_unfolding_all refine iter_tupTurns (vs := [_, _]) (by rfl) lF' lN' (List.Mem.head _) (by rfl) (by rfl) ?_); clear lF'; intro i' l1; (try k_lt l1)))
  (k_with "Mine.l11" => (k_here; (k_dflt (show wpAny _ _ (call (Value.builtin _) [Value.ref _, Value.str _ _]) _ _ _)); (rename News _ _ _ _ => nA); (rename ExcObj _ _ _ => xA); (rename TupObj _ _ => tA); k_dflt (refine' append_K ?hl11apF nA (upd2 nA xA tA ?hl11apU) ?_ ?hl11apz; (case hl11apF => k_asm); (case hl11apU => k_upd); (case hl11apz => (rw [sizeLine_eq]; exact Nat.le_of_ble_eq_true rfl)); k_whole); intro h' F' N'; (try k_sweep)))
  (k_with "Mine.l12" => (k_here; with_reducible refine wpAny_isNot_ref_self ?_))
  (k_with "Mine.l13" => ((rename News _ _ _ _ => nU); (rename Fr _ _ _ _ => fU); k_dflt (refine unrw_end fU nU (by (simp only [AllLt]; assumption)) ?_); clear nU fU))
  (k_with "Mine.l14" => (k_here; (with_reducible show wpAny _ _ (subscriptTail _ (PySem.Expr.Slice none (some _) none _) (Value.str _ _) (Value.ref _)) _ _ _); (with_reducible rename Fr _ _ _ _ => F'); (with_reducible rename News _ _ _ _ => N'); k_dflt (first | (refine sl2 (s := ⟨_, _, _, _, _⟩) F' N' (by assumption) (by decide) ⟨by decide, by decide⟩ ⟨by decide, by decide⟩ ⟨by decide, by decide⟩ ?_) | (refine sl9 (s := ⟨_, _, _, _, _⟩) F' N' (by assumption) (by decide) ⟨by decide, by decide⟩ ⟨by decide, by decide⟩ ?_)); clear F' N'; intro h' t' k' F' N'; (try dsimp only)))
  (k_with "Mine.l15" => (k_here; k_dflt (refine' nin2 ?hl15n2N ?hl15n2m ?_; (case hl15n2N => k_asm); (case hl15n2m => k_mem))))
  (k_with "Mine.l16" => (k_here; (with_reducible show wpAny _ _ (binaryOp Operator.Add (Value.str (hd6 _ _ _) _) (Value.str _ _)) _ _ _); k_dflt (refine add_six (by assumption) (by decide) ⟨by decide, by decide⟩ ⟨by decide, by decide⟩ ?_); intro _ _; (try dsimp only)))
  (k_with "Mine.l17" => (k_here; (with_reducible refine ne_same ?_)))
  (k_with "Mine.l18" => (k_here; (with_reducible show wpAny _ _ (call (Value.ref 197) _) _ _ _); k_dflt (refine' read_p ?hl18rpP ?hl18rp6 ?hl18rpn ?hl18rpe ?hl18rpB ?hl18rpF ?hl18rpX ?hl18rpN ?hl18rpT ?hl18rpk ?hl18rpd ?hl18rpu ?_; (case hl18rpP => assumption); (case hl18rp6 => decide); (case hl18rpn => exact ⟨by decide, by decide⟩); (case hl18rpe => exact ⟨by decide, by decide⟩); (case hl18rpB => k_asm); (case hl18rpF => k_asm); (case hl18rpX => k_asm); (case hl18rpN => k_asm); (case hl18rpT => k_asm); (case hl18rpk => exact rfl); (case hl18rpd => ktr_room); (case hl18rpu => ktr_units)); intro T' l' vs' n' k' t' h' tk' F' N' hI'; (try k_sweep)))
  (k_with "Mine.l19" => (k_here; (with_reducible show wpAny _ _ (exec (Stmt.For _ (Expr.Name _ _) _ _ _) _) _ _ _); (rename Fr _ _ _ _ => lF'); (with_unfolding_all refine' For_invVF lF' ?hl19k1 ?hl19k2 ?_; (case hl19k1 => exact rfl); (case hl19k2 => exact rfl); k_whole)))
  (k_with "Mine.l20" => (
      k_here
      (with_reducible show wpAny _ _ (pyIter (Value.ref _)) (fun it s₂ => LoopAtV _ _ _ _ _ _ _ _ _ it s₂) _ _)
      (rename IntsAre _ (List.map Int.ofNat _) => lI')
      (rename Fr _ _ _ _ => lF'); (rename News _ _ _ _ => lN')
      (with_unfolding_all refine' kst_listL (σ := Int × Tok) (fun _ => _) (fun c => [(Str.ofString "told", Value.int c.1 c.2)]) (fun _ => True) [] (fun pre c => c.1 = toldOf pre 0) (0, _) (by rfl) (fun _ => ?hl20k0) lI' lF' lN' trivial ?hl20hk ?hl20hp ?_ ?_)
      (case hl20k0 => k_mem); (case hl20hk => (intro p hp; cases List.mem_singleton.mp hp; with_unfolding_all rfl)); (case hl20hp => rfl)
      (all_goals (try clear lF' lN'))
      rotate_left
      (rintro ⟨ta, tta⟩ kU kH kTk kFacts kInv kFr kNews)
      (dsimp only [kstB] at kFr kInv)
      (have kTa := told_all (by assumption) kInv); (subst kTa)
      rotate_left
      (rintro ⟨ta, tta⟩ kPre kPost kN kT kU kH kTk kOwn kEq kMem kOff kFacts kInv kFr kNews); (clear kEq)
      (dsimp only [kstB] at kFr kInv)
      (all_goals (try k_fold))))
  (k_with "Mine.l21" => ((rename News _ _ _ _ => nE9); (refine' kst_end (σ := Int × Tok) (_, _) (by assumption) nE9 ?hl21hn ?hl21ho ?hl21ha trivial ?hl21hk ?hl21hr ?hl21hp); (case hl21hn => exact fun p hp => List.mem_append_left _ hp); (case hl21ho => exact fun p hp => List.mem_append_right _ hp); (case hl21ha => rfl); (case hl21hk => (intro p hp; cases List.mem_singleton.mp hp; with_unfolding_all rfl)); (case hl21hr => kst_same); (case hl21hp => exact told_step (by assumption))))
  (k_with "Mine.l22" => (k_here; (k_dflt (show wpAny _ _ (call (Value.builtin "len") [Value.ref _]) _ _ _)); k_dflt (first | (refine' len_oct4 (by assumption) (by assumption) ?hl22loN ?hl22lom ?_; (case hl22loN => k_asm); (case hl22lom => k_mem)) | (refine' len_oct16 (by assumption) (by assumption) ?hl22loN ?hl22lom ?_; (case hl22loN => k_asm); (case hl22lom => k_mem))); (try dsimp only)))
  (k_with "Mine.l23" => (k_here; k_dflt (first
      | (refine' ne_4 (by assumption) ?hl23ntN ?hl23nta ?hl23ntb ?hl23ntu ?_; (case hl23ntN => k_asm); (case hl23nta => k_mem); (case hl23ntb => k_mem); (case hl23ntu => exact Nat.le_of_ble_eq_true rfl))
      | (refine' ne_16 (by assumption) ?hl23ntN ?hl23nta ?hl23ntb ?hl23ntu ?_; (case hl23ntN => k_asm); (case hl23nta => k_mem); (case hl23ntb => k_mem); (case hl23ntu => exact Nat.le_of_ble_eq_true rfl)))))
  w_strict (k_go0; (all_goals try k_fold); k_steps)
end Mine

theorem PySem.Challenge.cw_dm0179_06_holds : PySem.Challenge.rw_dm0179_06.Holds := by
  exact Mine.walked
