import PyProof.Rows.All
import Wide.All
import OpenK.AllK
import Wide.FinOn
import Lean
import PySem.Challenge.RW_dm0179_05
open PySem PySem.W PyProof.Rows
set_option Elab.async false
set_option linter.unusedVariables false
set_option linter.unusedSimpArgs false

namespace Mine
set_option maxRecDepth 100000 in
set_option maxHeartbeats 8000000 in
open_top hd for PySem.Challenge.rw_dm0179_05
end Mine

namespace Mine
set_option maxRecDepth 100000
open PySem.Calls Builtin Builtin.BaseException Builtin.Exceptions

/-- an exception of an own class that stands in the heap -/
structure OwnE (K : Frag) (h : Heap) (e t C : Addr) (vs : List Value) : Prop where
  at_ : ∃ oe ws, h.get? e = some oe ∧ oe.cls = .ref C ∧ oe.data = .fields ws ∧ ws[0]? = some (.ref t)
  tup : h.TupAt t vs
  kin : K.In h
  sub : mroIn K C (.type "BaseException") = some true

section
variable {prog : Program} {w : World} {A : Around} {E : Value → Shared → Prop} {s : Shared} {K : Frag} {e t C : Addr} {vs : List Value}

theorem OwnE.ty {M : Model} {h : Heap} (o : OwnE K h e t C vs) : Looks M h (typeOf (.ref e)) (.ref C) := by
  obtain ⟨oe, ws, h1, h2, _⟩ := o.at_
  exact h2 ▸ (Looks.ld h1).andThen .now

theorem own_check {M : Model} {id n : String} {rest : List Value} {Q : Unit → Shared → Prop} (o : OwnE K s.heap e t C vs)
    (hk : builtinKind id = some .slot) (hsp : splitId id = some ("BaseException", n)) (ha : argsOk id ⟨.ref e :: rest, []⟩) (hq : Q () s) :
    wpAny M A (checkBuiltinCall id ⟨.ref e :: rest, []⟩) Q E s := by
  have L1 := o.ty (M := M)
  have L2 := looks_mroIn (M := M) o.kin o.sub
  have L3 : Looks M s.heap (isInstance (.ref e) (.type "BaseException")) true := L1.andThen L2
  simp only [checkBuiltinCall, hk, hsp]
  refine wpAny_bind (m := isInstance (.ref e) (.type "BaseException")) (L3.here ?_)
  unfold argsOk at ha
  simp only [Bool.not_true, Bool.false_eq_true, if_false]
  generalize Manifest.signature? id = sg at ha ⊢
  cases sg <;> exact wpAny_of_eq ha hq

theorem own_call {id n : String} {b : Builtin} {rest : List Value} {Q : Value → Shared → Prop} (o : OwnE K s.heap e t C vs)
    (hk : builtinKind id = some .slot) (hsp : splitId id = some ("BaseException", n)) (hpl : plainId id = true) (hb : entryFor table id = some b) (ha : argsOk id ⟨.ref e :: rest, []⟩)
    (hc : wpAny (model prog w) A.in1 (b ⟨.ref e :: rest, []⟩) (fun fin s' => ∃ v, fin = .done (.ret v) ∧ Q v s') E s) :
    wpAny (model prog w) A (call (.builtin id) (.ref e :: rest)) Q E s := by
  refine wpAny_call (codeAny_call_builtin hpl hb (own_check o hk hsp ha (wpAny_mono hc (fun fin s' h' => ?_) fun _ _ h' => h')))
  obtain ⟨v, rfl, hv⟩ := h'; exact hv

theorem own_bexcArgs {M : Model} {Q : Value × List Value → Shared → Prop} (o : OwnE K s.heap e t C vs) (hq : Q (.ref t, vs) s) :
    wpAny M A (bexcArgs (.ref e)) Q E s := by
  obtain ⟨oe, ws, ho, _, hd, h0⟩ := o.at_
  obtain ⟨ot, k, hto, _, htd⟩ := o.tup
  unfold bexcArgs
  refine wpAny_bind (wpAny_field ho hd h0 (wpAny_bind (wpAny_seqItems hto htd ?_)))
  have : vs.toArray.toList = vs := by simp
  show wpAny M A (pure (Value.ref t, vs.toArray.toList)) Q E s
  rw [this]; exact wpAny_pure hq

theorem own_str_entry {x : Str} {u : Tok} {Q : Fin → Shared → Prop} (o : OwnE K s.heap e t C [.str x u]) (hq : Q (.done (.ret (.str x u))) s) :
    wpAny (model prog w) A (Builtin.«BaseException.__str__» ⟨[.ref e], []⟩) Q E s := by
  unfold Builtin.«BaseException.__str__»
  repeat (first | with_reducible refine own_bexcArgs o ?_ | wp_step)
  exact hq

theorem own_str_call {x : Str} {u : Tok} {Q : Value → Shared → Prop} (o : OwnE K s.heap e t C [.str x u]) (hq : Q (.str x u) s) :
    wpAny (model prog w) A (call (.builtin "BaseException.__str__") [.ref e]) Q E s :=
  own_call (n := "__str__") o (by decide +kernel) (by decide +kernel) F.excStr_ValueError.str.plain F.entry_bexc_str (F.args_bexc_str _) (own_str_entry o ⟨_, rfl, hq⟩)

/-- a special method of an own exception's class that is a built-in's slot -/
theorem own_special {M : Model} {X id : String} {name : Str} {args : List Value} {Q : Option Value → Shared → Prop} (o : OwnE K s.heap e t C vs)
    (hs : findIn K (.ref C) name = some (some (.builtin id))) (h : Slot X name id) (hc : wpAny M A (call (.builtin id) (.ref e :: args)) (fun v => Q (some v)) E s) :
    wpAny M A (callSpecial? (.ref e) name args) Q E s := by
  have L : Looks M s.heap (specialOf (.ref e) name) (some (.builtin id)) := o.ty.andThen (looks_findIn o.kin hs)
  simp only [callSpecial?]
  refine wpAny_bind (L.here ?_)
  simp only [h.bind]
  exact wpAny_holding (wpAny_bind (wpAny_pure (wpAny_bind (wpAny_mono hc (fun v s' h' => wpAny_pure h') fun _ _ h' => h'))))

theorem own_specialB {M : Model} {X id : String} {name : Str} {args : List Value} {Q : Option Value → Shared → Prop} (o : OwnE K s.heap e t C vs)
    (hs : findIn K (.ref C) name = some (some (.builtin id))) (h : Slot X name id) (hc : wpAny M A (call (.builtin id) (.ref e :: args)) (fun v => Q (some v)) E s) :
    wpAny M A (callSpecialIfBound? (.ref e) name args) Q E s := by
  have L : Looks M s.heap (specialOf (.ref e) name) (some (.builtin id)) := o.ty.andThen (looks_findIn o.kin hs)
  simp only [callSpecialIfBound?, bindSpecialIfBound?]
  refine wpAny_holding (wpAny_bind (wpAny_bind (L.here ?_)))
  simp only [h.bind]
  refine wpAny_bind (wpAny_askSetting (wpAny_ite ?_))
  have fin : wpAny M A (call (.builtin id) ([.ref e] ++ args) >>= fun v => pure (some v)) Q E s :=
    wpAny_bind (wpAny_mono hc (fun v s' h' => wpAny_pure h') fun _ _ h' => h')
  split
  · exact wpAny_bind (wpAny_pure (wpAny_pure fin))
  · exact wpAny_tryCatch (wpAny_bind (wpAny_pure (wpAny_pure fin)))

theorem own_strOf {x : Str} {u : Tok} {Q : Value → Shared → Prop} (o : OwnE K s.heap e t C [.str x u]) (hs : findIn K (.ref C) "__str__" = some (some (.builtin "BaseException.__str__")))
    (hu : A.units < cLine) (hq : Q (.str x u) s) : wpAny (model prog w) A (Builtin.Str.strOf (.ref e)) Q E s := by
  unfold Builtin.Str.strOf
  repeat (first | with_reducible refine wpAny_cRoomFor hu ?_ | with_reducible refine own_special o hs F.excStr_ValueError.str (own_str_call o ?_) | wp_step)
  exact hq

theorem own_str {x : Str} {u : Tok} {Q : Value → Shared → Prop} (o : OwnE K s.heap e t C [.str x u]) (hs : findIn K (.ref C) "__str__" = some (some (.builtin "BaseException.__str__")))
    (hu : A.units + 2 < cLine) (hq : Q (.str x u) s) : wpAny (model prog w) A (call (.type "str") [.ref e]) Q E s :=
  callType_new F.called_str (by decide) (F.typeCall_str_1 _) (F.newCall_str_1 _) (fun obj => F.args_object_init_2 obj _) F.entry_str_new
    (PySem.meets_str_new (S := fun A' R s' => A'.units + 1 < cLine ∧ OwnE K s'.heap e t C [.str x u] ∧ R (.ok (.ret (.str x u))) s')
      fun _ _ A' _ _ hq => own_strOf (A := A'.in1) hq.2.1 hs hq.1 hq.2.2)
    ⟨(show A.units + 1 + 1 < cLine from hu), o, typeIs_str _ _ _, hq⟩

theorem own_name {M : Model} {cd : ClassData} {Q : String → Shared → Prop} (o : OwnE K s.heap e t C vs) (hc : clsIn K C = some cd) (hq : Q cd.name.toString s) :
    wpAny M A (typeNameOfWhole (.ref e)) Q E s := by
  unfold typeNameOfWhole shownTypeOf
  refine wpAny_bind (wpAny_bind (o.ty.here ?_))
  have e0 : ((Value.ref C) == Value.type "builtin_function_or_method") = false := rfl
  simp only [e0, Bool.false_eq_true, if_false]
  exact wpAny_pure (wpAny_bind ((looks_clsIn o.kin hc).here (wpAny_pure hq)))

theorem own_repr_entry {cd : ClassData} {x : Str} {u : Tok} {Q : Fin → Shared → Prop} (o : OwnE K s.heap e t C [.str x u]) (hc : clsIn K C = some cd)
    (hq : Q (.done (.ret (.str (excReprHead cd.name.toString ++ "(" ++ reprText x ++ ")") (s.toks + 1)))) { s with toks := s.toks + 1 + 1 }) (hsz : (excReprHead cd.name.toString ++ "(" ++ reprText x ++ ")").length ≤ sizeLine) :
    wpAny (model prog w) A (Builtin.bexcReprAt 0 ⟨[.ref e], []⟩) Q E s := by
  have e1 : (Str.ofString ((cd.name.toString.cutAt '.').getLastD "") ++ Str.ofString "(" ++ reprText x ++ Str.ofString ")").length ≤ sizeLine := hsz
  have hsz2 := e1
  have eP : (Str.ofString "(").length = 1 := by rw [PySem.ofString_length]; rfl
  rw [strLen_append, strLen_append, strLen_append, eP] at e1
  have hsz1 : (reprText x).length ≤ sizeLine := by omega
  have hpile : 0 + ((Str.ofString ((cd.name.toString.cutAt '.').getLastD "")).length + 1) ≤ sizeLine := by omega
  unfold Builtin.bexcReprAt
  repeat (first | with_reducible refine own_name o hc ?_ | with_reducible refine own_bexcArgs o ?_ | rw [pyReprUnder_leaf (v := .str x u) hpile (by intro a; nofun)] | with_reducible refine wpAny_pyRepr_str ?_ | wp_step)
  exact hq

theorem own_reprObj {cd : ClassData} {x : Str} {u : Tok} {Q : Value → Shared → Prop} (o : OwnE K s.heap e t C [.str x u]) (hc : clsIn K C = some cd) (hs : findIn K (.ref C) "__repr__" = some (some (.builtin "BaseException.__repr__")))
    (hu : A.units < cLine) (hq : Q (.str (excReprHead cd.name.toString ++ "(" ++ reprText x ++ ")") (s.toks + 1)) { s with toks := s.toks + 1 + 1 }) (hsz : (excReprHead cd.name.toString ++ "(" ++ reprText x ++ ")").length ≤ sizeLine) :
    wpAny (model prog w) A (pyReprObj (.ref e)) Q E s := by
  have L : Looks (model prog w) s.heap (specialOf (.ref e) "__repr__") (some (.builtin "BaseException.__repr__")) := o.ty.andThen (looks_findIn o.kin hs)
  unfold pyReprObj
  repeat (first | with_reducible refine wpAny_cRoomFor hu ?_ | with_reducible refine L.here ?_ | with_reducible refine own_specialB o hs F.excStr_ValueError.repr (own_call (n := "__repr__") o (by decide +kernel) (by decide +kernel) F.excStr_ValueError.repr.plain F.entry_bexc_repr (F.args_bexc_repr _) (own_repr_entry o hc ⟨_, rfl, ?_⟩ hsz)) | with_reducible refine wpAny_isInstance (typeIs_str _ _ _) isSubtype_str_str ?_ | wp_step)
  exact hq
end

structure ExcObj (oe : Obj) (cls : Value) (t : Addr) : Prop where
  cls_ : oe.cls = cls
  dat_ : ∃ ws, oe.data = .fields ws ∧ ws[0]? = some (.ref t)
structure TupObj (ot : Obj) (vs : List Value) : Prop where
  cls_ : ot.cls = .type "tuple"
  dat_ : ∃ n, ot.data = .seq vs.toArray n

theorem got_merge {h₀ h : Heap} {L e t : Addr} {n₂ led : List (Addr × Obj)} {cls : Value} {vs : List Value} (N₂ : News h₀ L h n₂) (G : Got n₂ e t cls vs) (N : News h₀ L h led) :
    ∃ oe ot, ExcObj oe cls t ∧ TupObj ot vs ∧ News h₀ L h ((e, oe) :: (t, ot) :: led) := by
  obtain ⟨oe, ot, ws, nt, h1, h2, hc, hd, h0, htc, htd⟩ := G
  refine ⟨oe, ot, ⟨hc, ws, hd, h0⟩, ⟨htc, nt, htd⟩, fun p hp => ?_⟩
  rcases List.mem_cons.mp hp with rfl | hp
  · exact N₂ _ h1
  rcases List.mem_cons.mp hp with rfl | hp
  · exact N₂ _ h2
  · exact N p hp

section
variable {prog : Program} {w : World} {A : Around} {E : Value → Shared → Prop} {s : Shared} {K : Frag} {e t C L : Addr} {vs : List Value} {h₀ : Heap} {m : Str → Option Value} {news : List (Addr × Obj)} {oe ot : Obj} {Q : Value → Shared → Prop}

theorem ownE_of (F : Fr h₀ L s.heap m) (X₀ : K.In h₀) (N : News h₀ L s.heap news) (m1 : (e, oe) ∈ news) (hE : ExcObj oe (.ref C) t) (m2 : (t, ot) ∈ news) (hT : TupObj ot vs) (sub : mroIn K C (.type "BaseException") = some true) : OwnE K s.heap e t C vs := by
  obtain ⟨ws, hd, h0⟩ := hE.dat_
  obtain ⟨n, hn⟩ := hT.dat_
  exact ⟨⟨oe, ws, (N _ m1).1, hE.cls_, hd, h0⟩, ⟨ot, n, (N _ m2).1, hT.cls_, hn⟩, X₀.keeps F.keep, sub⟩

theorem own_strK {x : Str} {u : Tok} (F : Fr h₀ L s.heap m) (X₀ : K.In h₀) (N : News h₀ L s.heap news) (m1 : (e, oe) ∈ news) (hE : ExcObj oe (.ref C) t) (m2 : (t, ot) ∈ news) (hT : TupObj ot [.str x u])
    (sub : mroIn K C (.type "BaseException") = some true) (hs : findIn K (.ref C) "__str__" = some (some (.builtin "BaseException.__str__"))) (hu : A.units + 2 < cLine) (hq : Q (.str x u) s) :
    wpAny (model prog w) A (call (.type "str") [.ref e]) Q E s := own_str (ownE_of F X₀ N m1 hE m2 hT sub) hs hu hq

theorem own_reprK {cd : ClassData} {x : Str} {u : Tok} (F : Fr h₀ L s.heap m) (X₀ : K.In h₀) (N : News h₀ L s.heap news) (m1 : (e, oe) ∈ news) (hE : ExcObj oe (.ref C) t) (m2 : (t, ot) ∈ news) (hT : TupObj ot [.str x u])
    (sub : mroIn K C (.type "BaseException") = some true) (hc : clsIn K C = some cd) (hs : findIn K (.ref C) "__repr__" = some (some (.builtin "BaseException.__repr__"))) (hu : A.units < cLine)
    (hsz : (excReprHead cd.name.toString ++ "(" ++ reprText x ++ ")").length ≤ sizeLine) (hq : Q (.str (excReprHead cd.name.toString ++ "(" ++ reprText x ++ ")") (s.toks + 1)) { s with toks := s.toks + 1 + 1 }) :
    wpAny (model prog w) A (pyReprObj (.ref e)) Q E s := own_reprObj (ownE_of F X₀ N m1 hE m2 hT sub) hc hs hu hq hsz

theorem own_typeK {cls : Value} (N : News h₀ L s.heap news) (m1 : (e, oe) ∈ news) (hE : ExcObj oe cls t) (hnb : (cls == .type "builtin_function_or_method") = false) (hq : Q cls s) :
    wpAny (model prog w) A (call (.type "type") [.ref e]) Q E s := by
  obtain ⟨h, g, d, tk, os⟩ := s
  exact call_type_obj (N.get m1) (by rw [hE.cls_]; exact hnb) (by rw [hE.cls_]; exact hq)

def excInQ (K : Frag) (C : Addr) (bmB : List Value) (newId : String) : Bool := match K.lookup C with
  | some ⟨.type "type", _, .cls cd, sl⟩ => (match cd.mro, sl.toList with
    | .ref C' :: bm, [_, _, _, _, some (.builtin n), _] => C' == C && n == newId && !cd.hasDel && bm == bmB && nsOkIn K cd.ns && quietNames.all (fun q => nsIn K cd.ns q == some none)
    | _, _ => false)
  | _ => false

theorem ownQ_of_in {K : Frag} {h₀ : Heap} {C : Addr} {bmB : List Value} {newId : String} (X : K.In h₀) (q : excInQ K C bmB newId = true) : OwnClsQ Str.empty C bmB newId (fun _ => some (.ref C)) h₀ := by
  refine ⟨rfl, ?_⟩
  unfold excInQ at q
  split at q
  · rename_i dd cd sl ho
    split at q
    · rename_i C' bm k0 k1 k2 k3 n k5 hm hs
      simp only [Bool.and_eq_true, beq_iff_eq, Bool.not_eq_true'] at q
      obtain ⟨⟨⟨⟨⟨rfl, rfl⟩, hdel⟩, rfl⟩, hok⟩, hni⟩ := q
      obtain ⟨nm, bs, mro, ns, qn, hd, sn, sub, ab, col, del⟩ := cd
      dsimp only at hm hdel hok hni
      subst hm hdel
      have hsl : sl = #[k0, k1, k2, k3, some (.builtin n), k5] := by
        obtain ⟨l⟩ := sl
        simp only at hs
        rw [hs]
      subst hsl
      refine ⟨bm, ns, nm, qn, bs, hd, sn, sub, ab, col, dd, k0, k1, k2, k3, k5, _, X _ _ ho, .of_isNs (isNs_of_in X hok), fun y hy => ?_, .base⟩
      have := List.all_eq_true.mp hni y hy
      exact nsMap_none_of_in X hok (by simpa using this)
    · cases q
  · cases q

theorem own_argsK {newId : String} {expr : Bool} (F : Fr h₀ L s.heap m) (X₀ : K.In h₀) (q : excInQ K C [.type "ValueError", .type "Exception", .type "BaseException", .type "object"] newId = true)
    (N : News h₀ L s.heap news) (m1 : (e, oe) ∈ news) (hE : ExcObj oe (.ref C) t) (hq : Q (.ref t) { s with toks := s.toks + 1 }) : wpAny (model prog w) A (getAttr (.ref e) "args" expr) Q E s := by
  obtain ⟨h, g, d, tk, os⟩ := s
  obtain ⟨ws, hd, h0⟩ := hE.dat_
  exact args_of_own PySem.F.attrBase_ValueError (ownQ_of_in (X₀.keeps F.keep) q) (N _ m1).1 hE.cls_ hd h0 hq

theorem own_newK {newId initId : String} {rest : List Value} (FB : ExcBaseFacts "ValueError" newId initId [.type "ValueError", .type "Exception", .type "BaseException", .type "object"]) (F : Fr h₀ L s.heap m) (X₀ : K.In h₀)
    (q : excInQ K C [.type "ValueError", .type "Exception", .type "BaseException", .type "object"] newId = true) (N : News h₀ L s.heap news)
    (hq : ∀ h' e t oe ot, Fr h₀ L h' m → News h₀ L h' ((e, oe) :: (t, ot) :: news) → ExcObj oe (.ref C) t → TupObj ot rest → (∀ p ∈ news, p.1 ≠ e) → (∀ p ∈ news, p.1 ≠ t) → Q (.ref e) { s with heap := h' })
    (hrest : rest.length ≤ sizeLine) : wpAny (model prog w) A (call (.ref C) rest) Q E s := by
  obtain ⟨h, g, d, tk, os⟩ := s
  obtain ⟨bm, ns, nm, qn, bs, hd, sn, sub, ab, col, dd, k0, k1, k2, k3, k5, mN, hC, hN, hni, T⟩ := (ownQ_of_in (X₀.keeps F.keep) q).obj
  refine wpAny_call_exc_subT FB T.tail hC hN (hni _ (.head _)) (fun h' e M => ?_) hrest
  obtain ⟨t, he, htn, ht⟩ := M.there
  have F' : Fr h₀ L h' m := F.keeps M.keeps
  have nk : ∀ b, h.get? b = none → h₀.get? b = none := fun b hb => by
    cases q : h₀.get? b with
    | none => rfl
    | some o => have := F.keep b o q; rw [show (⟨h, g, d, tk, os⟩ : Shared).heap = h from rfl, hb] at this; cases this
  have nL : ∀ b, h.get? b = none → b ≠ L := fun b hb e => by
    obtain ⟨oL, _, _, hL, _⟩ := F.ns
    rw [← e, show (⟨h, g, d, tk, os⟩ : Shared).heap = h from rfl, hb] at hL; cases hL
  have ne : ∀ b, h.get? b = none → ∀ p ∈ news, p.1 ≠ b := fun b hb p hp e => by
    have := (N p hp).1
    rw [e, show (⟨h, g, d, tk, os⟩ : Shared).heap = h from rfl, hb] at this; cases this
  refine hq h' e t { cls := .ref C, data := .fields #[.ref t, .none, .none, .none, .bool false, .none] } { cls := .type "tuple", data := .seq rest.toArray } F' (fun p hp => ?_) ⟨rfl, _, rfl, rfl⟩ ⟨rfl, _, rfl⟩ (ne _ M.new) (ne _ htn)
  rcases List.mem_cons.mp hp with rfl | hp
  · exact ⟨he, nL _ M.new, nk _ M.new⟩
  rcases List.mem_cons.mp hp with rfl | hp
  · exact ⟨ht, nL _ htn, nk _ htn⟩
  · exact ⟨M.keeps _ _ (N p hp).1, (N p hp).2⟩
end
end Mine

namespace Mine
set_option maxRecDepth 100000
open PySem.Calls Builtin
theorem slot_bytes_contains : Slot "bytes" "__contains__" "bytes.__contains__" :=
  .of (owner := "bytes") (n := "__contains__") (by rw [typeLookup_type, builtinLookup_eq_fast]; kernel_rfl) (by decide +kernel) (by decide +kernel) (by decide +kernel)
    (by first | exact .inl (by decide +kernel) | exact .inr (by decide +kernel)) (by rw [isSubtype_type]; kernel_rfl)
theorem entry_bytes_contains : entryFor table "bytes.__contains__" = some Builtin.«bytes.__contains__» := entryFor_of_tree (by kernel_rfl)
theorem args_bytes_contains (a b : Value) : argsOk "bytes.__contains__" ⟨[a, b], []⟩ := by unfold argsOk; kernel_rfl
section
variable {prog : Program} {w : World} {A : Around} {E : Value → Shared → Prop} {s : Shared} {b : Array UInt8} {t u : Tok} {n : Int} {Q : Value → Shared → Prop}
theorem add_lit5 {x y : Str} {t u : Tok} (hx : (x.length == 0) = false) (hy : (y.length == 0) = false) (hsz : (x ++ y).length ≤ sizeLine) (h : Q (.str (x ++ y) s.toks) { s with toks := s.toks + 1 }) :
    wpAny (model prog w) A (binaryOp .Add (.str x t) (.str y u)) Q E s := P.add_str (by simp only [hx, hy]; exact ⟨hsz, h⟩)
theorem typeIs_bytes' (s : Shared) (b : Array UInt8) (t : Tok) : s.TypeIs (.bytes b t) "bytes" := rfl
theorem contains_entry {Q : Fin → Shared → Prop} (h0 : 0 ≤ n) (h1 : n < 256) (h : Q (.done (.ret (.bool (b.contains n.toNat.toUInt8)))) s) :
    wpAny (model prog w) A (Builtin.«bytes.__contains__» ⟨[.bytes b t, .int n u], []⟩) Q E s := by
  unfold Builtin.«bytes.__contains__»
  show wpAny _ _ (Bytes.containsIn "bytes.__contains__" (.bytes b t) (.int n u) >>= fun r => ret (.bool r)) _ _ _
  refine wpAny_bind ?_
  unfold Bytes.containsIn
  show wpAny _ _ (Bytes.buffer? "bytes.__contains__" (.bytes b t) >>= fun r => _) _ _ _
  refine wpAny_bind (wpAny_of_eq W.KBy.buffer_eq ?_)
  show wpAny _ _ (if (decide (n < 0) || decide (n ≥ 256)) = true then _ else pure (b.contains n.toNat.toUInt8)) _ _ _
  rw [if_neg (by simp; omega)]
  exact wpAny_pure (wpAny_pure h)
theorem in_bytes (h0 : 0 ≤ n) (h1 : n < 256) (h : Q (.bool (b.contains n.toNat.toUInt8)) s) : wpAny (model prog w) A (compareOp .In (.int n u) (.bytes b t)) Q E s :=
  In_slot (typeIs_bytes' s b t) slot_bytes_contains (wpAny_call_entry slot_bytes_contains (typeIs_bytes' s b t) entry_bytes_contains
    (contains_entry h0 h1 ⟨_, rfl, wpAny_truthy_bool h⟩) (args_bytes_contains _ _))
theorem notIn_bytes (h0 : 0 ≤ n) (h1 : n < 256) (h : Q (.bool (!b.contains n.toNat.toUInt8)) s) : wpAny (model prog w) A (compareOp .NotIn (.int n u) (.bytes b t)) Q E s :=
  NotIn_slot (typeIs_bytes' s b t) slot_bytes_contains (wpAny_call_entry slot_bytes_contains (typeIs_bytes' s b t) entry_bytes_contains
    (contains_entry h0 h1 ⟨_, rfl, wpAny_truthy_bool h⟩) (args_bytes_contains _ _))
end
end Mine

namespace Mine
set_option maxRecDepth 100000
open PySem.Calls PySem.Spec
def hexS (n : Int) : Str := ⟨#[if n.toNat < 10 then 48 + n.toNat else 87 + n.toNat]⟩
/-- one byte as the law writes it; q is the quote's number -/
def shownB (q n : Int) : Str :=
  if n = 9 then Str.ofString "\\t" else if n = 10 then Str.ofString "\\n" else if n = 13 then Str.ofString "\\r" else if n = 92 then Str.ofString "\\\\" else if n = q then ⟨#[92, q.toNat]⟩
  else if 32 ≤ n ∧ n < 127 then ⟨#[n.toNat]⟩ else Str.ofString "\\x" ++ hexS (n.fdiv 16) ++ hexS (n.fmod 16)
def litAcc (q : Int) (pre : List Int) : Str := pre.foldl (fun acc n => acc ++ shownB q n) (Str.ofString "b" ++ ⟨#[q.toNat]⟩)
theorem litAcc_snoc (q : Int) (pre : List Int) (n : Int) : litAcc q (pre ++ [n]) = litAcc q pre ++ shownB q n := by
  unfold litAcc; rw [List.foldl_append]; rfl
theorem shownB_len (q n : Int) : (shownB q n).length ≤ 4 := by
  unfold shownB
  have e1 : (Str.ofString "\\t").length = 2 := by decide
  have e2 : (Str.ofString "\\n").length = 2 := by decide
  have e3 : (Str.ofString "\\r").length = 2 := by decide
  have e4 : (Str.ofString "\\\\").length = 2 := by decide
  have e5 : (Str.ofString "\\x").length = 2 := by decide
  have e6 : ∀ a : Nat, (⟨#[a]⟩ : Str).length = 1 := fun _ => rfl
  have e7 : ∀ a b : Nat, (⟨#[a, b]⟩ : Str).length = 2 := fun _ _ => rfl
  repeat' split
  all_goals (try rw [strLen_append, strLen_append]); (try unfold hexS); simp only [e1, e2, e3, e4, e5, e6, e7]; try omega
theorem litAcc_len (q : Int) (pre : List Int) : (litAcc q pre).length ≤ 2 + 4 * pre.length := by
  have : ∀ (l : List Int) (a : Str), (l.foldl (fun acc n => acc ++ shownB q n) a).length ≤ a.length + 4 * l.length := by
    intro l
    induction l with
    | nil => intro a; simp
    | cons n r ih =>
      intro a
      have h1 := ih (a ++ shownB q n)
      have h2 := shownB_len q n
      rw [strLen_append] at h1
      simp only [List.foldl_cons, List.length_cons]
      omega
  have h := this pre (Str.ofString "b" ++ ⟨#[q.toNat]⟩)
  have e : (Str.ofString "b" ++ ⟨#[q.toNat]⟩ : Str).length = 2 := by rw [strLen_append]; rfl
  unfold litAcc
  omega

def quoteOf (b : Array UInt8) : Nat := if b.contains 39 && !b.contains 34 then 34 else 39
def hexN (n : Nat) : Nat := if n < 10 then 48 + n else 87 + n
def shownN (q c : Nat) : Array Nat :=
  if c == q || c == 92 then #[92, c]
  else if c == 9 then #[92, 116]
  else if c == 10 then #[92, 110]
  else if c == 13 then #[92, 114]
  else if c < 32 || c ≥ 127 then #[92, 120, hexN (c / 16), hexN (c % 16)]
  else #[c]
theorem literal_is (b : Array UInt8) : Builtin.Bytes.literal b = ⟨(b.foldl (fun acc c => acc ++ shownN (quoteOf b) c.toNat) #[98, quoteOf b]).push (quoteOf b)⟩ := rfl
theorem shownB_shownN {q : Nat} (hq : q = 39 ∨ q = 34) (c : Nat) (hc : c < 256) : (shownB (q : Int) (c : Int)).cps = shownN q c := by
  unfold shownB shownN
  have l1 : (Str.ofString "\\t").cps = #[92, 116] := by decide +kernel
  have l2 : (Str.ofString "\\n").cps = #[92, 110] := by decide +kernel
  have l3 : (Str.ofString "\\r").cps = #[92, 114] := by decide +kernel
  have l4 : (Str.ofString "\\\\").cps = #[92, 92] := by decide +kernel
  have l5 : (Str.ofString "\\x").cps = #[92, 120] := by decide +kernel
  by_cases h9 : c = 9
  · subst h9; rcases hq with rfl | rfl <;> simp [l1]
  by_cases h10 : c = 10
  · subst h10; rcases hq with rfl | rfl <;> simp [l2]
  by_cases h13 : c = 13
  · subst h13; rcases hq with rfl | rfl <;> simp [l3]
  by_cases h92 : c = 92
  · subst h92; rcases hq with rfl | rfl <;> simp [l4]
  by_cases hcq : c = q
  · subst hcq
    have : ¬ ((c : Int) = 9) := by omega
    have : ¬ ((c : Int) = 10) := by omega
    have : ¬ ((c : Int) = 13) := by omega
    have : ¬ ((c : Int) = 92) := by omega
    simp [*]
  have a1 : ¬ ((c : Int) = 9) := by omega
  have a2 : ¬ ((c : Int) = 10) := by omega
  have a3 : ¬ ((c : Int) = 13) := by omega
  have a4 : ¬ ((c : Int) = 92) := by omega
  have a5 : ¬ ((c : Int) = (q : Int)) := by omega
  simp only [a1, a2, a3, a4, a5, if_false]
  have b1 : (c == q || c == 92) = false := by simp [hcq, h92]
  have b2 : (c == 9) = false := by simpa using h9
  have b3 : (c == 10) = false := by simpa using h10
  have b4 : (c == 13) = false := by simpa using h13
  simp only [b1, b2, b3, b4, Bool.false_eq_true, if_false]
  by_cases hp : 32 ≤ c ∧ c < 127
  · rw [if_pos (by omega), if_neg (by simp; omega)]
    simp
  · rw [if_neg (by omega), if_pos (by simp; omega)]
    simp only [Str.cps_append, l5]
    unfold hexS hexN
    have e1 : ((c : Int).fdiv 16).toNat = c / 16 := by
      rw [Int.fdiv_eq_ediv_of_nonneg _ (by decide)]; omega
    have e2 : ((c : Int).fmod 16).toNat = c % 16 := by
      rw [Int.fmod_eq_emod_of_nonneg _ (by decide)]; omega
    rw [e1, e2]
    rfl
theorem quoteOf_two (b : Array UInt8) : quoteOf b = 39 ∨ quoteOf b = 34 := by unfold quoteOf; split <;> simp
theorem literal_acc (b : Array UInt8) : litAcc (quoteOf b) (KBw.bInts b) ++ ⟨#[quoteOf b]⟩ = Builtin.Bytes.literal b := by
  rw [literal_is]
  refine Str.ext' ?_
  rw [Str.cps_append]
  have key : ∀ (l : List UInt8) (a : Str), ((l.map fun c => ((c.toNat : Nat) : Int)).foldl (fun acc n => acc ++ shownB (quoteOf b) n) a).cps = l.foldl (fun acc c => acc ++ shownN (quoteOf b) c.toNat) a.cps := by
    intro l
    induction l with
    | nil => intro a; rfl
    | cons c r ih =>
      intro a
      simp only [List.map_cons, List.foldl_cons]
      rw [ih, Str.cps_append, shownB_shownN (quoteOf_two b) c.toNat c.toNat_lt]
  have e : KBw.bInts b = b.toList.map fun c => ((c.toNat : Nat) : Int) := rfl
  unfold litAcc
  rw [e, key, ← Array.foldl_toList]
  have l0 : (Str.ofString "b" ++ ⟨#[((quoteOf b : Nat) : Int).toNat]⟩ : Str).cps = #[98, quoteOf b] := by
    rw [Str.cps_append, show (Str.ofString "b").cps = #[98] from by decide +kernel]
    simp
  rw [l0]
  simp
end Mine

namespace Mine
set_option maxRecDepth 100000
open PySem.Calls PySem.Spec
theorem hex_item {k : Int} (h0 : 0 ≤ k) (h1 : k < 16) : Txt.item (Str.ofString "0123456789abcdef") k = hexS k := by
  have : k = 0 ∨ k = 1 ∨ k = 2 ∨ k = 3 ∨ k = 4 ∨ k = 5 ∨ k = 6 ∨ k = 7 ∨ k = 8 ∨ k = 9 ∨ k = 10 ∨ k = 11 ∨ k = 12 ∨ k = 13 ∨ k = 14 ∨ k = 15 := by omega
  rcases this with rfl | rfl | rfl | rfl | rfl | rfl | rfl | rfl | rfl | rfl | rfl | rfl | rfl | rfl | rfl | rfl <;> decide +kernel
theorem div16 {n : Int} (h0 : 0 ≤ n) (h1 : n < 256) : 0 ≤ n.fdiv 16 ∧ n.fdiv 16 < 16 := by
  rw [Int.fdiv_eq_ediv_of_nonneg _ (by decide)]; omega
theorem mod16 (n : Int) : 0 ≤ n.fmod 16 ∧ n.fmod 16 < 16 := ⟨Int.fmod_nonneg_of_pos n (by decide), Int.fmod_lt_of_pos n (by decide)⟩
/-- the law's table of signs; q is the quote's number -/
def signTab (q : Int) (qs : Str) : List (PyData × PyData) :=
  [(.int 9, .str (Str.ofString "\\t")), (.int 10, .str (Str.ofString "\\n")), (.int 13, .str (Str.ofString "\\r")), (.int 92, .str (Str.ofString "\\\\")), (.int q, .str (Str.ofString "\\" ++ qs))]
def InTab (q n : Int) : Prop := n = 9 ∨ n = 10 ∨ n = 13 ∨ n = 92 ∨ n = q
theorem look_in {q n : Int} {qs : Str} (hq : q = 39 ∨ q = 34) (hs : Str.ofString "\\" ++ qs = ⟨#[92, q.toNat]⟩) (h : InTab q n) : PySem.Spec.lookup (.int n) (signTab q qs) = some (.str (shownB q n)) := by
  unfold signTab shownB
  have a1 : ∀ a b : Int, PySem.Spec.same (.int a) (.int b) = decide (a = b) := PyProof.V.same_int
  unfold InTab at h
  rcases h with rfl | rfl | rfl | rfl | rfl <;> rcases hq with rfl | rfl <;> simp [PySem.Spec.lookup, a1, hs]
theorem look_out {q n : Int} {qs : Str} (h : ¬ InTab q n) : PySem.Spec.lookup (.int n) (signTab q qs) = none := by
  unfold signTab
  unfold InTab at h
  have a1 : ∀ a b : Int, PySem.Spec.same (.int a) (.int b) = decide (a = b) := PyProof.V.same_int
  have b1 : ¬ n = 9 := fun e => h (by simp [e])
  have b2 : ¬ n = 10 := fun e => h (by simp [e])
  have b3 : ¬ n = 13 := fun e => h (by simp [e])
  have b4 : ¬ n = 92 := fun e => h (by simp [e])
  have b5 : ¬ n = q := fun e => h (by simp [e])
  have c1 : ¬ 9 = n := fun e => b1 e.symm
  have c2 : ¬ 10 = n := fun e => b2 e.symm
  have c3 : ¬ 13 = n := fun e => b3 e.symm
  have c4 : ¬ 92 = n := fun e => b4 e.symm
  have c5 : ¬ q = n := fun e => b5 e.symm
  simp [PySem.Spec.lookup, a1, c1, c2, c3, c4, c5]
section
variable {prog : Program} {w : World} {A : Around} {E : Value → Shared → Prop} {s : Shared} {d : Addr} {D : List (PyData × PyData)} {q n : Int} {qs : Str} {t : Tok} {Q : Value → Shared → Prop}
theorem in_signs (T : IntTab prog w s.heap d D) (e : D = signTab q qs) (hq : q = 39 ∨ q = 34) (hs : Str.ofString "\\" ++ qs = ⟨#[92, q.toNat]⟩)
    (h1 : InTab q n → Q (.bool true) { s with toks := s.toks + 1 }) (h2 : ¬ InTab q n → Q (.bool false) { s with toks := s.toks + 1 }) : wpAny (model prog w) A (compareOp .In (.int n t) (.ref d)) Q E s := by
  subst e
  refine in_intTab T ?_
  by_cases h : InTab q n
  · rw [look_in hq hs h]; exact h1 h
  · rw [look_out h]; exact h2 h
theorem item_signs {value slice : PySem.Expr} (T : IntTab prog w s.heap d D) (e : D = signTab q qs) (hq : q = 39 ∨ q = 34) (hs : Str.ofString "\\" ++ qs = ⟨#[92, q.toNat]⟩) (hin : InTab q n)
    (h : ∀ t, Q (.str (shownB q n) t) { s with toks := s.toks + 1 })
    (hsub : subscripted slice false (.ref d) (.int n t) = operate [.ref d, .int n t] (getItem (.ref d) (.int n t)) := by with_unfolding_all rfl) (hg : ∀ r, letTemporaryGo value (.ref d) r = pure () := by intro _; with_unfolding_all rfl) :
    wpAny (model prog w) A (subscriptTail value slice (.ref d) (.int n t)) Q E s := by
  subst e
  refine item_intTab T (look_in hq hs hin) (fun v hv => ?_) hsub hg
  have hr := hv s.heap
  cases hr
  exact h _
theorem item_hex {value slice : PySem.Expr} {u : Tok} (h0 : 0 ≤ n) (h1 : n < 16) (h : Q (.str (hexS n) s.toks) { s with toks := s.toks + 1 })
    (hs : subscripted slice false (.str (Str.ofString "0123456789abcdef") t) (.int n u) = operate [.str (Str.ofString "0123456789abcdef") t, .int n u] (getItem (.str (Str.ofString "0123456789abcdef") t) (.int n u)) := by with_unfolding_all rfl)
    (ht : ∀ r, letTemporaryGo value (.str (Str.ofString "0123456789abcdef") t) r = pure () := by intro _; with_unfolding_all rfl) :
    wpAny (model prog w) A (subscriptTail value slice (.str (Str.ofString "0123456789abcdef") t) (.int n u)) Q E s := by
  have e : (Str.ofString "0123456789abcdef").length = 16 := by decide +kernel
  refine item_str ?_ (by rw [e]; omega) (by rw [e]; omega) (fun _ => ?_) hs ht
  · unfold fitsSsize
    simp
    omega
  · rw [hex_item h0 h1]; exact h
end
theorem hexS_len (n : Int) : (hexS n).length = 1 := rfl
theorem one_len (n : Nat) : (⟨#[n]⟩ : Str).length ≤ 4 := by show 1 ≤ 4; omega
theorem x_len : (Str.ofString "\\x").length = 2 := by decide
theorem xh_len (a b : Int) : (Str.ofString "\\x" ++ hexS a ++ hexS b).length ≤ 4 := by rw [strLen_append, strLen_append, x_len, hexS_len, hexS_len]; omega
theorem xh1_fit (a b : Int) : (Str.ofString "\\x" ++ hexS a).length + (hexS b).length ≤ sizeLine := by rw [strLen_append, x_len, hexS_len, hexS_len, sizeLine_eq]; omega
theorem xh0_fit (a : Int) : (Str.ofString "\\x").length + (hexS a).length ≤ sizeLine := by rw [x_len, hexS_len, sizeLine_eq]; omega
theorem fit5 {x y : Str} (hx : x.length ≤ 5000) (hy : y.length ≤ 4) : x.length + y.length ≤ sizeLine := by rw [sizeLine_eq]; omega
theorem shownB_mid {q n : Int} (h : ¬ InTab q n) (h1 : 32 ≤ n) (h2 : n < 127) : shownB q n = ⟨#[n.toNat]⟩ := by
  unfold InTab at h
  unfold shownB
  rw [if_neg (fun e => h (by simp [e])), if_neg (fun e => h (by simp [e])), if_neg (fun e => h (by simp [e])), if_neg (fun e => h (by simp [e])), if_neg (fun e => h (by simp [e])), if_pos ⟨h1, h2⟩]
theorem shownB_hex {q n : Int} (h : ¬ InTab q n) (h1 : ¬ (32 ≤ n ∧ n < 127)) : shownB q n = Str.ofString "\\x" ++ hexS (n.fdiv 16) ++ hexS (n.fmod 16) := by
  unfold InTab at h
  unfold shownB
  rw [if_neg (fun e => h (by simp [e])), if_neg (fun e => h (by simp [e])), if_neg (fun e => h (by simp [e])), if_neg (fun e => h (by simp [e])), if_neg (fun e => h (by simp [e])), if_neg h1]
theorem len_acc {q : Int} {pre : List Int} {tx : Str} (e : tx = litAcc q pre) (h : pre.length ≤ 1000) : tx.length ≤ 5000 := by have := litAcc_len q pre; rw [e]; omega
theorem acc_in {q n : Int} {pre : List Int} {tx : Str} (e : tx = litAcc q pre) : tx ++ shownB q n = litAcc q (pre ++ [n]) := by rw [litAcc_snoc, e]
theorem acc_mid {q q' n : Int} {pre : List Int} {tx : Str} (e : tx = litAcc q pre) (h : ¬ InTab q' n) (hq : q' = q) (h1 : 32 ≤ n) (h2 : n < 127) : tx ++ (⟨#[n.toNat]⟩ : Str) = litAcc q (pre ++ [n]) := by
  subst hq; rw [litAcc_snoc, e, shownB_mid h h1 h2]
theorem acc_lo {q q' n : Int} {pre : List Int} {tx : Str} (e : tx = litAcc q pre) (h : ¬ InTab q' n) (hq : q' = q) (h1 : ¬ 32 ≤ n) : tx ++ (Str.ofString "\\x" ++ hexS (n.fdiv 16) ++ hexS (n.fmod 16)) = litAcc q (pre ++ [n]) := by
  subst hq; rw [litAcc_snoc, e, shownB_hex h (fun x => h1 x.1)]
theorem acc_hi {q q' n : Int} {pre : List Int} {tx : Str} (e : tx = litAcc q pre) (h : ¬ InTab q' n) (hq : q' = q) (h1 : ¬ n < 127) : tx ++ (Str.ofString "\\x" ++ hexS (n.fdiv 16) ++ hexS (n.fmod 16)) = litAcc q (pre ++ [n]) := by
  subst hq; rw [litAcc_snoc, e, shownB_hex h (fun x => h1 x.2)]
theorem acc_tab {q q' n : Int} {pre : List Int} {tx : Str} (e : tx = litAcc q pre) (hq : q' = q) : tx ++ shownB q' n = litAcc q (pre ++ [n]) := by
  subst hq; rw [litAcc_snoc, e]
theorem u39 : (Int.toNat 39).toUInt8 = (39 : UInt8) := by decide
theorem u34 : (Int.toNat 34).toUInt8 = (34 : UInt8) := by decide
theorem lit_one {b : Array UInt8} {tx : Str} (h : tx = litAcc 39 (KBw.bInts b)) (h1 : b.contains (Int.toNat 39).toUInt8 = false) : tx ++ Str.ofString "'" = Builtin.Bytes.literal b := by
  rw [u39] at h1
  have e : quoteOf b = 39 := by unfold quoteOf; rw [h1]; rfl
  have := literal_acc b
  rw [e] at this
  rw [h, ← this]
  rw [show Str.ofString "'" = (⟨#[39]⟩ : Str) from by decide +kernel]
  rfl
theorem lit_two {b : Array UInt8} {tx : Str} (h : tx = litAcc 39 (KBw.bInts b)) (h1 : b.contains (Int.toNat 34).toUInt8 = true) : tx ++ Str.ofString "'" = Builtin.Bytes.literal b := by
  rw [u34] at h1
  have e : quoteOf b = 39 := by unfold quoteOf; rw [h1]; simp
  have := literal_acc b
  rw [e] at this
  rw [h, ← this]
  rw [show Str.ofString "'" = (⟨#[39]⟩ : Str) from by decide +kernel]
  rfl
theorem lit_three {b : Array UInt8} {tx : Str} (h : tx = litAcc 34 (KBw.bInts b)) (h1 : b.contains (Int.toNat 39).toUInt8 = true) (h2 : b.contains (Int.toNat 34).toUInt8 = false) : tx ++ Str.ofString "\"" = Builtin.Bytes.literal b := by
  rw [u39] at h1
  rw [u34] at h2
  have e : quoteOf b = 34 := by unfold quoteOf; rw [h1, h2]; rfl
  have := literal_acc b
  rw [e] at this
  rw [h, ← this]
  rw [show Str.ofString "\"" = (⟨#[34]⟩ : Str) from by decide +kernel]
  rfl
theorem q_str {Q : Value → Shared → Prop} {x y : Str} {t : Tok} {S : Shared} (e : x = y) (h : Q (.str y t) S) : Q (.str x t) S := e ▸ h
theorem news_tl {h₀ h : Heap} {L : Addr} {p : Addr × Obj} {l : List (Addr × Obj)} (N : News h₀ L h (p :: l)) : News h₀ L h l := fun x hx => N x (.tail _ hx)
end Mine

namespace Mine
set_option maxRecDepth 100000
open PySem.Calls Builtin
theorem slot_bytes_repr : Slot "bytes" "__repr__" "bytes.__repr__" :=
  .of (owner := "bytes") (n := "__repr__") (by rw [typeLookup_type, builtinLookup_eq_fast]; kernel_rfl) (by decide +kernel) (by decide +kernel) (by decide +kernel)
    (by first | exact .inl (by decide +kernel) | exact .inr (by decide +kernel)) (by rw [isSubtype_type]; kernel_rfl)
theorem entry_bytes_repr : entryFor table "bytes.__repr__" = some Builtin.«bytes.__repr__» := entryFor_of_tree (by kernel_rfl)
theorem args_bytes_repr (a : Value) : argsOk "bytes.__repr__" ⟨[a], []⟩ := by unfold argsOk; kernel_rfl
theorem literal_len (b : Array UInt8) : (Builtin.Bytes.literal b).length ≤ 3 + 4 * b.size := by
  rw [← literal_acc, strLen_append]
  have h := litAcc_len (quoteOf b) (KBw.bInts b)
  rw [KBw.ints_length] at h
  have e : (⟨#[quoteOf b]⟩ : PySem.Str).length = 1 := rfl
  omega
section
variable {prog : Program} {w : World} {A : Around} {E : Value → Shared → Prop} {s : Shared} {b : Array UInt8} {t : Tok}
theorem repr_entry {Q : Fin → Shared → Prop} (hb : b.size ≤ 1000) (h : Q (.done (.ret (.str (Builtin.Bytes.literal b) s.toks))) { s with toks := s.toks + 1 }) :
    wpAny (model prog w) A (Builtin.«bytes.__repr__» ⟨[.bytes b t], []⟩) Q E s := by
  have hl := literal_len b
  unfold Builtin.«bytes.__repr__»
  show wpAny _ _ (Bytes.literalAsked b >>= fun r => retStr r) _ _ _
  refine wpAny_bind ?_
  unfold Bytes.literalAsked
  have e : Bytes.tooLong (4 * b.size + 3 + 0) = false := by
    unfold Bytes.tooLong; rw [sizeLine_eq]; simp; omega
  rw [e]
  simp only [Bool.false_and, Bool.false_eq_true, if_false]
  refine wpAny_pure ?_
  show wpAny _ _ (mkStr (Builtin.Bytes.literal b) >>= fun v => ret v) _ _ _
  exact wpAny_bind (wpAny_mkStr (wpAny_pure h) (by rw [sizeLine_eq]; omega))
theorem repr_under {base : Nat} {Q : Value → Shared → Prop} (hb : b.size ≤ 1000) (h : Q (.str (Builtin.Bytes.literal b) s.toks) { s with toks := s.toks + 1 }) :
    wpAny (model prog w) A (pyReprObjUnder base (.bytes b t)) Q E s := by
  have hT := typeIs_bytes' s b t
  unfold pyReprObjUnder pyReprObjBy
  simp only [cRoomFor, show [Value.bytes b t].any Value.onHeap = false from rfl, Bool.false_eq_true, if_false, pure_bind]
  refine wpAny_bind (wpAny_specialOf (name := Str.ofString "__repr__") hT slot_bytes_repr.lookup ?_)
  have fin : wpAny (model prog w) A (call (.builtin "bytes.__repr__") ([Value.bytes b t] ++ []) >>= fun v => pure (some v)) (fun r s' => wpAny (model prog w) A (match r with
      | some r => do if ← isInstance r (.type "str") then pure r else raiseError "TypeError" s!"__repr__ returned non-string (type {← typeNameOf r})"
      | none => unsupported "repr:special-get-raises") Q E s') E s :=
    wpAny_bind (wpAny_mono (wpAny_call_entry (Q := fun v s' => v = .str (Builtin.Bytes.literal b) s.toks ∧ s' = { s with toks := s.toks + 1 }) slot_bytes_repr hT entry_bytes_repr (repr_entry hb ⟨_, rfl, rfl, rfl⟩) (args_bytes_repr _)) (fun v s' h' => by
      obtain ⟨rfl, rfl⟩ := h'
      exact wpAny_pure (wpAny_bind (wpAny_isInstance (T := "str") (b := true) rfl isSubtype_str_str (wpAny_pure h)))) fun _ _ h' => h')
  refine wpAny_bind ?_
  simp only [callSpecialIfBoundBy?, bindSpecialIfBound?]
  refine wpAny_holding (wpAny_bind (wpAny_bind (wpAny_specialOf hT slot_bytes_repr.lookup ?_)))
  simp only [slot_bytes_repr.bind]
  refine wpAny_bind (wpAny_askSetting (wpAny_ite ?_))
  split
  · exact wpAny_bind (wpAny_pure (wpAny_pure fin))
  · exact wpAny_tryCatch (wpAny_bind (wpAny_pure (wpAny_pure fin)))
end
def msgOf (l : PySem.Str) (n e v : Int) : PySem.Str :=
  l ++ Str.ofString " (len " ++ Str.ofString (toString n) ++ Str.ofString " != " ++ Str.ofString (toString e) ++ Str.ofString ") is not permitted as an IPv" ++ Str.ofString (toString v) ++ Str.ofString " address"
theorem neg_text : ∀ k : Fin 100, (Str.ofString (toString (-((k.val : Int) + 1)))).cps.toList = 45 :: (Str.ofString (toString ((k.val : Int) + 1))).cps.toList := by decide +kernel
theorem pos_short : ∀ k : Fin 100, (Str.ofString (toString (-((k.val : Int) + 1)))).length ≤ 10 := by decide +kernel
theorem int_textS (c : Builtin.Str.Percent) (h1 : c.alt = false) (h2 : c.type = 100 ∨ c.type = 105 ∨ c.type = 117) (h3 : c.prec = none) {n : Int} (hn : -100 ≤ n) (hm : n < 100) : Builtin.Str.percentInt c (decide (n < 0)) (Str.ofString (toString ((n.natAbs : Nat) : Int))).cps.toList = (Str.ofString (toString n)).cps.toList := by
  by_cases h : 0 ≤ n
  · rw [KPc.int_text c h1 h2 h3 h, Int.natAbs_of_nonneg h]
  · have hneg : decide (n < 0) = true := decide_eq_true (by omega)
    have hk : (-n - 1).toNat < 100 := by omega
    have e := neg_text ⟨(-n - 1).toNat, hk⟩
    have e1 : -((((-n - 1).toNat : Nat) : Int) + 1) = n := by omega
    have e2 : ((((-n - 1).toNat : Nat) : Int) + 1) = ((n.natAbs : Nat) : Int) := by omega
    simp only [e1] at e
    simp only [e2] at e
    rw [e]
    unfold Builtin.Str.percentInt
    rcases h2 with h2 | h2 | h2 <;> simp [h1, h2, h3, hneg]
theorem toString_lenS {n : Int} (hn : -100 ≤ n) (hm : n < 100) : (Str.ofString (toString n)).length ≤ 10 := by
  by_cases h : 0 ≤ n
  · exact toString_length_le (k := 10) h (by decide) (by omega)
  · have hk : (-n - 1).toNat < 100 := by omega
    have e := pos_short ⟨(-n - 1).toNat, hk⟩
    have e1 : -((((-n - 1).toNat : Nat) : Int) + 1) = n := by omega
    simp only [e1] at e
    exact e
section
open Builtin.Str KPc
variable {M : Model} {A : Around} {E : Value → Shared → Prop} {s : Shared} {l : List Nat} {p : List Value} {r : List Nat}
  {f : Nat → List Value × Writer × List Nat → Sem (ForInStep (List Value × Writer × List Nat))} {Q : List Value × Writer × List Nat → Shared → Prop}
  {w : Writer} {T x y : PySem.Str} {N K : Nat} {o : Option Value}
theorem after_intS {c : Percent} {n : Int} {d : List Nat} (g : KPc.Good w T N) (h1 : c.alt = false) (h2 : c.type = 100 ∨ c.type = 105 ∨ c.type = 117) (h3 : c.prec = none) (hn : -100 ≤ n) (hm : n < 100)
    (hd : d = (PySem.Str.ofString (toString ((n.natAbs : Nat) : Int))).cps.toList) (ho : o = none) (h : ∀ w', KPc.Good w' (T ++ PySem.Str.ofString (toString n)) (N + 10) → wpAny M A (forIn l (p, w', r) f) Q E s) :
    wpAny M A (forIn l (p, w.add ⟨(percentInt c (decide (n < 0)) d).toArray⟩ o, r) f) Q E s := by
  rw [hd, int_textS c h1 h2 h3 hn hm]
  exact KPc.after_str g (toString_lenS hn hm) (KPc.obj_none ho) h
end
local macro_rules | `(tactic| kpt_conv) => `(tactic| (refine wpAny_bind (repr_under (by assumption) ?_); refine wpAny_bind (wpAny_of_eq (a := some _) rfl ?_)))
local macro_rules | `(tactic| kpt_piece) => `(tactic| (refine after_intS (by kpc_g) rfl (by kpc_kind) rfl (by assumption) (by assumption) rfl (by kpc_none) ?_; intro _ _))
local macro_rules | `(tactic| kpt_hd) => `(tactic| exact shown (N := 2 ^ 1920) (by omega) (by omega) (Int.le_refl _))
set_option maxHeartbeats 4000000 in
theorem msg_meets {b : Array UInt8} {t tb tn te tv : Tok} {n e v : Int} {a : Addr} (hb : b.size ≤ 1000) (hl : (Builtin.Bytes.literal b).length ≤ 5000) (hn0 : -100 ≤ n) (hn1 : n < 100) (he0 : -100 ≤ e) (he1 : e < 100) (hv0 : -100 ≤ v) (hv1 : v < 100) :
    Meets (Builtin.«str.__mod__» ⟨[.str ⟨#[37, 114, 32, 40, 108, 101, 110, 32, 37, 100, 32, 33, 61, 32, 37, 100, 41, 32, 105, 115, 32, 110, 111, 116, 32, 112, 101, 114, 109, 105, 116, 116, 101, 100, 32, 97, 115, 32, 97, 110, 32, 73, 80, 118, 37, 100, 32, 97, 100, 100, 114, 101, 115, 115]⟩ t, .ref a], []⟩)
      (fun _ R s => IsTup s.heap a #[.bytes b tb, .int n tn, .int e te, .int v tv] ∧ ∀ t' k, R (.ok (.ret (.str (msgOf (Builtin.Bytes.literal b) n e v) t'))) { s with toks := k }) := by
  kpt_run
theorem fmt_is : Str.ofString "%r (len %d != %d) is not permitted as an IPv%d address" = ⟨#[37, 114, 32, 40, 108, 101, 110, 32, 37, 100, 32, 33, 61, 32, 37, 100, 41, 32, 105, 115, 32, 110, 111, 116, 32, 112, 101, 114, 109, 105, 116, 116, 101, 100, 32, 97, 115, 32, 97, 110, 32, 73, 80, 118, 37, 100, 32, 97, 100, 100, 114, 101, 115, 115]⟩ := by decide +kernel
theorem mod_msg {prog : Program} {w : World} {A : Around} {E : Value → Shared → Prop} {s : Shared} {b : Array UInt8} {t tb tn te tv : Tok} {n e v : Int} {a L : Addr} {c : Nat} {h₀ : Heap} {news : List (Addr × Obj)} {Q : Value → Shared → Prop}
    (N : News h₀ L s.heap news) (hm : (a, ({ cls := .type "tuple", data := .seq #[.bytes b tb, .int n tn, .int e te, .int v tv] c } : Obj)) ∈ news) (hb : b.size ≤ 1000) (hn0 : -100 ≤ n) (hn1 : n < 100) (he0 : -100 ≤ e) (he1 : e < 100) (hv0 : -100 ≤ v) (hv1 : v < 100)
    (h : ∀ t' k, Q (.str (msgOf (Builtin.Bytes.literal b) n e v) t') { s with toks := k }) : wpAny (model prog w) A (binaryOp .Mod (.str (Str.ofString "%r (len %d != %d) is not permitted as an IPv%d address") t) (.ref a)) Q E s :=
  KPt.mod_tuple N hm fmt_is (msg_meets hb (Nat.le_trans (literal_len b) (by omega)) hn0 hn1 he0 he1 hv0 hv1) h
end Mine

namespace Mine
set_option maxRecDepth 100000
open PySem.Calls PySem.Spec
structure VerPut (es : List DictEntry) (n : Nat) (f : Int → Int) (g : Tok → Tok) : Prop where
  get : (getL "_version" es).isSome = true
  put : ∀ hsh k v, (putL "_version" hsh (.str "_version" k) v es, putN "_version" es n) = ([(⟨f hsh, .str "_version" (g k), v⟩ : DictEntry)], 1)
theorem verPut_nil : VerPut [] 0 id id := ⟨rfl, fun _ _ _ => rfl⟩
theorem verPut_one {h : Int} {k : Tok} {v : Value} : VerPut [⟨h, .str "_version" k, v⟩] 1 (fun _ => h) (fun _ => k) := ⟨rfl, fun _ _ _ => rfl⟩
structure S5 where
  vs : List Value
  ns : List Int
  n : Nat
  es : List DictEntry
  en : Nat
  f : Int → Int
  g : Tok → Tok
def rowOk (c : S5) : Prop := IntsAre c.vs c.ns ∧ (∀ v ∈ c.ns, 0 ≤ v ∧ v < 256) ∧ VerPut c.es c.en c.f c.g
section
variable {prog : Program} {w : World} {A : Around} {E : Value → Shared → Prop} {s : Shared} {env : Env} {h₀ : Heap} {x : Str} {body : List Stmt} {Q : Flow → Shared → Prop}
abbrev led5 (D l1 R X d : Addr) (oD o1 oX : Obj) (c : S5) : List (Addr × Obj) := [(D, oD), (l1, o1), (R, listOf c.vs.toArray c.n), (X, oX), (d, dictOf c.es c.en)]
theorem loop5 {D l1 R X d : Addr} {o1 oX : Obj} {ws vs : List Value} {ks ns : List Int} {nn : Nat} {m₀ : Str → Option Value} (stored : List Str) (hh : A.handled = none) (hi : IntsAre ws ks) (hk : ks.length ≤ 66)
    (F : Fr h₀ env.locals s.heap m₀) (N : News h₀ env.locals s.heap [(D, listOf ws.toArray nn), (l1, o1), (R, listOf vs.toArray 0), (X, oX), (d, dictOf [] 0)]) (hv : IntsAre vs ns) (hr : ∀ v ∈ ns, 0 ≤ v ∧ v < 256) (hl : ns.length = 17)
    (turn : ∀ (vs : List Value) (ns : List Int) (n : Nat) (es : List DictEntry) (en : Nat) (f : Int → Int) (g : Tok → Tok) (pre : List Int) k t (u : Str → Option Value) h tk own, IntsAre vs ns → (∀ v ∈ ns, 0 ≤ v ∧ v < 256) → VerPut es en f g → ns.length = 17 + pre.length → pre.length < 66 → OwnOff own [D, l1, R, X, d] →
      Fr h₀ env.locals h (fun y => if y = x then some (.int k t) else if stored.contains y then u y else m₀ y) → News h₀ env.locals h ([(D, listOf ws.toArray nn), (l1, o1), (R, listOf vs.toArray n), (X, oX), (d, dictOf es en)] ++ own) →
      wpAny (model prog w) A (execs body env) (InvPostN h₀ env.locals (KstS (led5 D l1 R X d (listOf ws.toArray nn) o1 oX) (fun _ => []) rowOk x stored m₀ (fun p c => c.ns.length = 17 + p.length) (pre ++ [k])) own [D, l1, R, X, d] { s with heap := h, toks := tk } Q) E { s with heap := h, toks := tk })
    (done : ∀ h tk, (∃ m, Fr h₀ env.locals h m) → Q .next { s with heap := h, toks := tk }) :
    wpAny (model prog w) A (pyIter (.ref D)) (fun it s₂ => LoopAtV prog w A h₀ env x body Q E it s₂) E s := by
  refine kst_listL (led5 D l1 R X d (listOf ws.toArray nn) o1 oX) (fun _ => []) rowOk stored (fun p c => c.ns.length = 17 + p.length) ⟨vs, ns, 0, [], 0, id, id⟩ hh (fun c => .head _) hi F N ⟨hv, hr, verPut_nil⟩ (fun _ h => nomatch h) (by simpa using hl) ?_ ?_
  · intro c pre post k t u h tk own he hm hoff hf hp F₁ N₁
    obtain ⟨a1, a2, a3⟩ := hf
    have hlen : pre.length < 66 := by rw [he] at hk; simp at hk; omega
    exact turn c.vs c.ns c.n c.es c.en c.f c.g pre k t u h tk own a1 a2 a3 hp hlen hoff F₁ N₁
  · intro c u h tk hf hp F₁ N₁
    exact done h tk ⟨_, F₁⟩
theorem end5 {D l1 R X d : Addr} {oD o1 oX : Obj} {vs : List Value} {ns pre : List Int} {kk : Int} {n : Nat} {hs : Int} {kt : Tok} {v : Value} {own news' : List (Addr × Obj)} {stored : List Str} {m₀ m' : Str → Option Value} {h' : Heap} {tk : Nat} {s₁ : Shared} {L : Addr}
    (F : Fr h₀ L h' m') (N : News h₀ L h' news') (h1 : (D, oD) ∈ news') (h2 : (l1, o1) ∈ news') (h3 : (R, listOf vs.toArray n) ∈ news') (h4 : (X, oX) ∈ news') (h5 : (d, dictOf [⟨hs, .str "_version" kt, v⟩] 1) ∈ news') (ho : ∀ p ∈ own, p ∈ news')
    (hi : IntsAre vs ns) (hr : ∀ v ∈ ns, 0 ≤ v ∧ v < 256) (hl : ns.length = 18 + pre.length) (hz : ∀ z, z ≠ x → (∀ p ∈ ([] : List (Str × Value)), z ≠ p.1) → stored.contains z = false → m' z = m₀ z) :
    InvEndN h₀ L (KstS (led5 D l1 R X d oD o1 oX) (fun _ => []) rowOk x stored m₀ (fun p c => c.ns.length = 17 + p.length) (pre ++ [kk])) own [D, l1, R, X, d] s₁ { s₁ with heap := h', toks := tk } := by
  refine kst_end (Led := led5 D l1 R X d oD o1 oX) ⟨vs, ns, n, [⟨hs, .str "_version" kt, v⟩], 1, fun _ => hs, fun _ => kt⟩ F N (fun p hp => ?_) ho rfl ⟨hi, hr, verPut_one⟩ (fun _ h => nomatch h) hz (by simp [hl]; omega)
  rcases List.mem_cons.mp hp with rfl | hp
  · exact h1
  rcases List.mem_cons.mp hp with rfl | hp
  · exact h2
  rcases List.mem_cons.mp hp with rfl | hp
  · exact h3
  rcases List.mem_cons.mp hp with rfl | hp
  · exact h4
  rcases List.mem_cons.mp hp with rfl | hp
  · exact h5
  · cases hp
theorem tup_loop {a : Addr} {ot : Obj} {vs : List Value} {ns : List Int} {led : List (Addr × Obj)} {m₀ : Str → Option Value} (stored : List Str) (hh : A.handled = none) (F : Fr h₀ env.locals s.heap m₀) (N : News h₀ env.locals s.heap ((a, ot) :: led))
    (hc : ot.cls = .type "tuple") (hd : ∃ n, ot.data = .seq vs.toArray n) (hi : IntsAre vs ns) (hne : ∀ p ∈ led, p.1 < a)
    (turn : ∀ n t (u : Str → Option Value) h tk own, n ∈ ns → OwnOff own (led.map (·.1)) →
      Fr h₀ env.locals h (fun y => if y = x then some (.int n t) else if stored.contains y then u y else m₀ y) → News h₀ env.locals h (led ++ own) →
      wpAny (model prog w) A (execs body env) (InvPostN h₀ env.locals (KstS (σ := Unit) (fun _ => led) (fun _ => []) (fun _ => True) x stored m₀ (fun _ _ => True) []) own (led.map (·.1)) { s with heap := h, toks := tk } Q) E { s with heap := h, toks := tk })
    (done : ∀ (u : Str → Option Value) h tk, Fr h₀ env.locals h (fun y => if y = x then u y else if stored.contains y then u y else m₀ y) → News h₀ env.locals h led → Q .next { s with heap := h, toks := tk }) :
    wpAny (model prog w) A (pyIter (.ref a)) (fun it s₂ => LoopAtV prog w A h₀ env x body Q E it s₂) E s := by
  obtain ⟨nn, hd⟩ := hd
  have ha := N _ (.head _)
  have ht : s.heap.IsTuple a vs.toArray := ⟨ot, ha.1, hc, nn, hd⟩
  have hlt : a < s.heap.objs.size := Heap.lt_size ha.1
  have N' : News h₀ env.locals s.heap led := fun p hp => N p (.tail _ hp)
  refine wpAny_pyIter_tuple ht ?_
  have W := Walks.tuple (prog := prog) (w := w) hh s.heap.objs.size a (Nat.ne_of_lt hlt) vs.toArray
  refine loop_invN (fun _ m nx => KstS (σ := Unit) (fun _ => led) (fun _ => []) (fun _ => True) x stored m₀ (fun _ _ => True) [] m nx) W ?_ ?_ ?_ ?_ ⟨⟨_, Heap.get?_push_size _ rfl, rfl, rfl⟩, ht.push _⟩ (F.push _) (fun p hp => ⟨Heap.get?_push_of_some _ (N' p hp).1, (N' p hp).2⟩) ⟨(), rfl, trivial, (fun _ h => nomatch h), (fun _ _ _ _ => rfl), trivial⟩ ?_ ?_
  · intro hm
    rcases List.mem_cons.mp hm with e | hm
    · exact absurd F.ns.lt (e ▸ Nat.lt_irrefl _)
    · exact ha.2.1 (List.mem_singleton.mp hm).symm
  · intro b hb
    rw [List.mem_singleton.mp hb]
    exact next_is_new F
  · intro p hp hI
    exact absurd (Heap.lt_size (N' p hp).1) ((List.mem_singleton.mp hI) ▸ Nat.lt_irrefl _)
  · intro p hp hI
    rcases List.mem_cons.mp hI with e | hm
    · exact absurd (Heap.lt_size (N' p hp).1) (e ▸ Nat.lt_irrefl _)
    · exact absurd (hne p hp) ((List.mem_singleton.mp hm) ▸ Nat.lt_irrefl _)
  · rintro i v m₁ nx h tk own hin hP _ hoff ⟨_, rfl, _, h1, h2, _⟩ F₁ N₁
    have hlt' : i < ns.length := by rw [← hi.length]; simpa using hin
    obtain ⟨t, hx⟩ := hi.get i ns[i] (by simp [hlt'])
    have hv : v = .int ns[i] t := by
      have hP' : vs[i]? = some v := by simpa using hP
      rw [hx] at hP'; exact (Option.some.inj hP').symm
    subst hv
    exact turn _ t m₁ h tk own (List.getElem_mem hlt') hoff (kst_fr h1 h2 F₁) N₁
  · rintro m₁ nx h tk ⟨_, rfl, _, h1, h2, _⟩ F₁ N₁
    exact done m₁ h tk (kst_frOut h1 h2 F₁) N₁
end
end Mine

namespace Mine
set_option maxRecDepth 100000
open PySem.Calls
theorem push5 {vs : List Value} {ns : List Int} {p : Nat} {x : Int} {t : Tok} (hI : IntsAre vs ns) (hR : ∀ v ∈ ns, 0 ≤ v ∧ v < 256) (hL : ns.length = 17 + p) :
    ∃ (vs' : List Value) (ns' : List Int), vs.toArray.push (.int (x.fmod 256) t) = vs'.toArray ∧ IntsAre vs' ns' ∧ (∀ v ∈ ns', 0 ≤ v ∧ v < 256) ∧ ns'.length = 18 + p := by
  refine ⟨vs ++ [.int (x.fmod 256) t], ns ++ [x.fmod 256], by simp, hI.append (.cons _ _ .nil), fun v hv => ?_, by simp [hL]; omega⟩
  rcases List.mem_append.mp hv with hv | hv
  · exact hR v hv
  · rw [List.mem_singleton.mp hv]
    exact ⟨Int.fmod_nonneg_of_pos x (by decide), Int.fmod_lt_of_pos x (by decide)⟩
section
variable {prog : Program} {w : World} {A : Around} {E : Value → Shared → Prop} {s : Shared} {h₀ : Heap} {L l : Addr} {m : Str → Option Value} {news : List (Addr × Obj)} {value slice : PySem.Expr} {vs : List Value} {ns : List Int} {i : Int} {n p : Nat} {t : Tok} {Q : Value → Shared → Prop}
theorem len5 (N : News h₀ L s.heap news) (hm : (l, listOf vs.toArray n) ∈ news) (hI : IntsAre vs ns) (hL : ns.length = 18 + p) (hp : p < 66)
    (h : Q (.int ((18 + p : Nat) : Int) (s.toks + 1)) { s with toks := s.toks + 1 + 1 }) : wpAny (model prog w) A (call (.builtin "len") [.ref l]) Q E s :=
  kst_len N hm (hI.length.trans hL) (by omega) h
theorem pick5 {t0 t1 t2 u : Tok} {z y : Int} (N : News h₀ L s.heap news) (hm : (l, listOf #[.int 4 t0, .int 16 t1, .int (y.fmod 18) t2] n) ∈ news)
    (h : ∀ i t, 0 ≤ i → i ≤ 17 → Q (.int i t) s)
    (hs : subscripted slice false (.ref l) (.int (z.fmod 3) u) = operate [.ref l, .int (z.fmod 3) u] (getItem (.ref l) (.int (z.fmod 3) u)) := by with_unfolding_all rfl) :
    wpAny (model prog w) A (subscriptTail value slice (.ref l) (.int (z.fmod 3) u)) Q E s := by
  have hL : s.heap.IsList l #[.int 4 t0, .int 16 t1, .int (y.fmod 18) t2] := ⟨_, (N _ hm).1, rfl, n, rfl⟩
  have h0 := Int.fmod_nonneg_of_pos z (show (0 : Int) < 3 by decide)
  have h1 := Int.fmod_lt_of_pos z (show (0 : Int) < 3 by decide)
  have a0 := Int.fmod_nonneg_of_pos y (show (0 : Int) < 18 by decide)
  have a1 := Int.fmod_lt_of_pos y (show (0 : Int) < 18 by decide)
  generalize z.fmod 3 = i at *
  have go : ∀ v, (#[.int 4 t0, .int 16 t1, .int (y.fmod 18) t2] : Array Value)[i.toNat]? = some v → Q v s → wpAny (model prog w) A (subscriptTail value slice (.ref l) (.int i u)) Q E s := fun v hv q =>
    tail_any hL.typeIs slot_list_getitem.lookup (wpAny_getItem_list hL h0 (by omega) hv q) hs
  have : i = 0 ∨ i = 1 ∨ i = 2 := by omega
  rcases this with rfl | rfl | rfl
  · exact go _ rfl (h _ _ (by decide) (by decide))
  · exact go _ rfl (h _ _ (by decide) (by decide))
  · exact go _ rfl (h _ _ a0 (by omega))
theorem slice5 (F : Fr h₀ L s.heap m) (N : News h₀ L s.heap news) (hm : (l, listOf vs.toArray n) ∈ news) (hI : IntsAre vs ns) (hR : ∀ v ∈ ns, 0 ≤ v ∧ v < 256) (hL : ns.length = 18 + p) (hp : p < 66) (h0 : 0 ≤ i) (h1 : i ≤ 17)
    (h : ∀ D ws ms h', Fr h₀ L h' m → News h₀ L h' ((D, listOf (List.toArray ws) 0) :: news) → (∀ p ∈ news, p.1 < D) → IntsAre ws ms → (∀ v ∈ ms, 0 ≤ v ∧ v < 256) → ms.length ≤ 17 → Q (.ref D) { s with heap := h' })
    (hs : subscripted slice false (.ref l) (.ref s.heap.objs.size) = operate [.ref s.heap.objs.size, .ref l] (getItem (.ref l) (.ref s.heap.objs.size))) (ht : ∀ r, letTemporaryGo value (.ref l) r = pure ()) :
    wpAny (model prog w) A (subscriptTail value slice (.ref l) (.ref s.heap.objs.size)) Q E { s with heap := s.heap.push { cls := .type "slice", data := .fields #[.int (((18 + p : Nat) : Int) - i) t, .none, .none] } } := by
  have hx : 0 ≤ ((18 + p : Nat) : Int) - i := by omega
  refine kmk_slice_ints F N ⟨_, (N _ hm).1, rfl, n, rfl⟩ (.int _ _) .none hI (kmk_from hI hx) rfl (fun D ws h' F' N' l1 hI' _ _ => h D ws _ h' F' N' l1 hI' (fun v hv => hR v (List.mem_of_mem_drop hv)) ?_) hs ht ?_
  · rw [List.length_drop, hL]; omega
  · rw [List.size_toArray, hI.length, hL, sizeLine_eq]; omega
theorem bytes5 (F : Fr h₀ L s.heap m) (N : News h₀ L s.heap news) (hh : A.handled = none) (hm : (l, listOf vs.toArray n) ∈ news) (hI : IntsAre vs ns) (hR : ∀ v ∈ ns, 0 ≤ v ∧ v < 256) (hL : ns.length ≤ 17)
    (h : ∀ h' b t' k, Fr h₀ L h' m → News h₀ L h' news → b.size ≤ 17 → b.size ≤ 1000 → -100 ≤ (b.size : Int) → (b.size : Int) < 100 → Q (.bytes b t') { s with heap := h', toks := k }) : wpAny (model prog w) A (call (.type "bytes") [.ref l]) Q E s :=
  KBa.make_K F N hh ⟨_, (N _ hm).1, rfl, n, rfl⟩ hI hR (by omega) fun h' t' k F' N' _ => by
    have e : (byteArr ns).size = ns.length := by simp [byteArr]
    exact h h' _ t' k F' N' (by omega) (by omega) (by omega) (by omega)
theorem lenB5 {b : Array UInt8} {t : Tok} (hb : b.size ≤ 17) (h : Q (.int (b.size : Int) (s.toks + 1)) { s with toks := s.toks + 1 + 1 }) : wpAny (model prog w) A (call (.builtin "len") [.bytes b t]) Q E s :=
  PySem.W.len_bytes (by omega) h
end
end Mine
namespace Mine
def Len (x : Str) (n : Nat) : Prop := x.length ≤ n
theorem Len.add {x y : Str} {a b : Nat} (hx : Len x a) (hy : Len y b) : Len (x ++ y) (a + b) := by unfold Len at *; rw [strLen_append]; omega
theorem Len.str (c : String) : Len (Str.ofString c) (Str.ofString c).length := Nat.le_refl _
theorem Len.int {n : Int} (h0 : -100 ≤ n) (h1 : n < 100) : Len (Str.ofString (toString n)) 10 := toString_lenS h0 h1
theorem Len.lit {b : Array UInt8} (h : b.size ≤ 17) : Len (Builtin.Bytes.literal b) 71 := Nat.le_trans (literal_len b) (by omega)
theorem Len.fit {x y : Str} {a b : Nat} (hx : Len x a) (hy : Len y b) (h : a + b ≤ 16777216) : x.length + y.length ≤ sizeLine := by
  unfold Len at *
  rw [sizeLine_eq]; omega
theorem exp_in {y n : Int} (h : n ∈ [4, 16, y.fmod 41 - 20]) : -100 ≤ n ∧ n < 100 := by
  have a0 := Int.fmod_nonneg_of_pos y (show (0 : Int) < 41 by decide)
  have a1 := Int.fmod_lt_of_pos y (show (0 : Int) < 41 by decide)
  simp at h
  omega
theorem ver_in (y : Int) : -100 ≤ y.fmod 100 ∧ y.fmod 100 < 100 := by
  have a0 := Int.fmod_nonneg_of_pos y (show (0 : Int) < 100 by decide)
  have a1 := Int.fmod_lt_of_pos y (show (0 : Int) < 100 by decide)
  omega
section
variable {prog : Program} {w : World} {A : Around} {E : Value → Shared → Prop} {s : Shared} {K : Frag} {h₀ : Heap} {L x dx C : Addr} {m : Str → Option Value} {news news' : List (Addr × Obj)} {ox : Obj} {es : List DictEntry} {n : Nat}
theorem set5 {f : Int → Int} {g : Tok → Tok} {y : Int} {t : Tok} {Q : Unit → Shared → Prop} (F : Fr h₀ L s.heap m) (X₀ : K.In h₀) (N : News h₀ L s.heap news) (I : InstAt s.heap x ox C (some (dictOf es n))) (hd : ox.dict = some dx)
    (hs : findIn K (.ref C) "__setattr__" = some (some (.builtin "object.__setattr__"))) (hp : plainOver K C = true) (ht : takerIn K C "_version" = some none) (hh : hasDictIn K C = true) (V : VerPut es n f g)
    (U : Upd dx (dictOf es n) (dictOf [(⟨f (PyData.keyHash w.params "_version"), .str "_version" (g (s.toks + 1)), .int (y.fmod 100) t⟩ : DictEntry)] 1) news news')
    (h : ∀ h', Fr h₀ L h' m → News h₀ L h' news' → -100 ≤ y.fmod 100 → y.fmod 100 < 100 → Q () { s with heap := h', toks := s.toks + 2 }) :
    wpAny (model prog w) A (setAttr (.ref x) "_version" (.int (y.fmod 100) t)) Q E s :=
  set_dict F X₀ N I hd hs hp ht hh V.get (V.put _ _ _) U (Nat.le_of_ble_eq_true rfl) fun h' F' N' => h h' F' N' (ver_in y).1 (ver_in y).2
end
theorem ite_bne {a b : Int} {p q : Prop} (h1 : a ≠ b → p) (h2 : a = b → q) : if (a != b) = true then p else q := by
  by_cases h : a = b
  · rw [if_neg (by simp [h])]; exact h2 h
  · rw [if_pos (by simp [h])]; exact h1 h
theorem bne_t {a b : Int} (h : a ≠ b) : (a != b) = true := by simp [h]
theorem bne_f {a b : Int} (h : a = b) : ¬ (a != b) = true := by simp [h]
end Mine

namespace Mine
set_option maxRecDepth 100000
open PySem.Calls PySem.Spec PySem.SeqAt
def Okc (x : Str) : Prop := ∀ c ∈ x.cps.toList, c < 0x110000
theorem Okc.add {x y : Str} (hx : Okc x) (hy : Okc y) : Okc (x ++ y) := by
  intro c hc
  rw [Str.cps_append, Array.toList_append, List.mem_append] at hc
  exact hc.elim (hx c) (hy c)
theorem Okc.str (c : String) : Okc (Str.ofString c) := by
  intro n hn
  rw [Str.ofString_eq_toList] at hn
  simp only [List.mem_map] at hn
  obtain ⟨ch, _, rfl⟩ := hn
  have := ch.valid
  rw [UInt32.isValidChar, Nat.isValidChar] at this
  show ch.val.toNat < 0x110000
  omega
theorem shownN_ok {q c : Nat} (hq : q < 256) (hc : c < 256) : ∀ d ∈ (shownN q c).toList, d < 0x110000 := by
  unfold shownN hexN
  intro d hd
  repeat' split at hd
  all_goals (simp at hd; omega)
theorem Okc.lit (b : Array UInt8) : Okc (Builtin.Bytes.literal b) := by
  rw [literal_is]
  have hq : quoteOf b < 256 := by unfold quoteOf; split <;> omega
  have go : ∀ (l : List UInt8) (a : Array Nat), (∀ d ∈ a.toList, d < 0x110000) → ∀ d ∈ (l.foldl (fun acc c => acc ++ shownN (quoteOf b) c.toNat) a).toList, d < 0x110000 := by
    intro l
    induction l with
    | nil => intro a h; exact h
    | cons c r ih =>
      intro a h
      refine ih _ fun d hd => ?_
      rw [Array.toList_append, List.mem_append] at hd
      exact hd.elim (h d) (shownN_ok hq c.toNat_lt d)
  intro d hd
  simp only [Array.toList_push, List.mem_append, List.mem_singleton] at hd
  rcases hd with hd | rfl
  · rw [← Array.foldl_toList] at hd
    exact go b.toList #[98, quoteOf b] (fun d hd => by simp at hd; omega) d hd
  · omega
theorem canLay_okc {x : Str} (h : Okc x) : PyData.canLay0 (.str x) = true := by
  simp only [PyData.canLay0]
  show x.cps.all (fun c => decide (c < 0x110000)) = true
  rw [← Array.all_toList, List.all_eq_true]
  intro c hc
  exact decide_eq_true (h c hc)
theorem canLay_pair {x y : Str} (hx : Okc x) (hy : Okc y) : PyData.canLay0 (.tuple [PyData.str x, PyData.str y]) = true := by
  have h1 := canLay_okc hx
  have h2 := canLay_okc hy
  simp only [PyData.canLay0, PyData.canLayAll0, Bool.and_eq_true] at *
  exact ⟨h1, h2, trivial⟩
theorem shaped_pair {x y : Str} (hx : Okc x) (hy : Okc y) : shaped (.tuple [PyData.str x, PyData.str y]) = true := by
  show (PyData.canLay0 (.tuple [PyData.str x, PyData.str y]) && decide (PyData.depth (.tuple [PyData.str x, PyData.str y]) ≤ 64)) = true
  rw [Bool.and_eq_true]
  exact ⟨canLay_pair hx hy, by simp [PyData.depth, PyData.depthAll]⟩
theorem ne_pair {prog : Program} {w : World} {A : Around} {E : Value → Shared → Prop} {s : Shared} {a b : Addr} {Q : Value → Shared → Prop} {x y : Str} {u v u' v' : Tok} {c d : Nat} {h₀ : Heap} {L : Addr} {news : List (Addr × Obj)} (N : News h₀ L s.heap news)
    (ha : (a, ({ cls := .type "tuple", data := .seq #[.str x u, .str y v] c } : Obj)) ∈ news) (hb : (b, ({ cls := .type "tuple", data := .seq #[.str x u', .str y v'] d } : Obj)) ∈ news) (hx : Okc x) (hy : Okc y) (hu : A.units + 64 < cLine) (h : Q (.bool false) s) :
    wpAny (model prog w) A (compareOp .NotEq (.ref a) (.ref b)) Q E s := by
  refine ne_dataH (Reads.tuple (N _ ha).1 rfl rfl (ReadsAll.cons (Reads.str x u) (ReadsAll.cons (Reads.str y v) ReadsAll.nil))) (Reads.tuple (N _ hb).1 rfl rfl (ReadsAll.cons (Reads.str x u') (ReadsAll.cons (Reads.str y v') ReadsAll.nil))) (shaped_pair hx hy) (shaped_pair hx hy) hu ?_
  rw [eqv_refl _ (canLay_pair hx hy)]
  exact h
theorem okc_msg (b : Array UInt8) (n e v : Int) : Okc (Builtin.Bytes.literal b ++ Str.ofString " (len " ++ Str.ofString (toString n) ++ Str.ofString " != " ++ Str.ofString (toString e) ++ Str.ofString ") is not permitted as an IPv" ++ Str.ofString (toString v) ++ Str.ofString " address") :=
  (((((((Okc.lit b).add (.str _)).add (.str _)).add (.str _)).add (.str _)).add (.str _)).add (.str _)).add (.str _)
end Mine

namespace Mine
local macro_rules | `(tactic| k_room) => `(tactic| ktr_room)
local macro_rules | `(tactic| k_units) => `(tactic| ktr_units)
local macro_rules | `(tactic| walk_at "eval Dict") => `(tactic| (k_here; k_dflt (refine' kdn_eval (knd := PySem.intKind _ _) ?F ?N ?b ?a ?l ?e ?n ?_; (case F => k_asm); (case N => first | k_asm | exact News.nil); (case b => exact Top.nolimit (by k_asm)); (case a => rfl); (case l => rfl); (case e => exact List.cons_ne_nil _ _); (case n => exact Nat.le_of_ble_eq_true rfl)); intro d' h' o' F' N' l1 lo' hd'; (try k_lt l1)))
local macro_rules | `(tactic| walk_at "binaryOp Add str str") => `(tactic| (k_here; (first | (with_reducible show wpAny _ _ (binaryOp Operator.Add (Value.str (Str.ofString _) _) (Value.str (Str.ofString _) _)) _ _ _; (refine add_lit5 (by decide) (by decide) (by decide) ?_); (try dsimp only)) | ((refine PyProof.Rows.add_str ?_ (by first | exact xh0_fit _ | exact xh1_fit _ _ | exact fit5 (by assumption) (by decide))); intro _ _))))
local macro_rules | `(tactic| walk_at "inplaceOp Add str str") => `(tactic| (k_here; (refine PyProof.Rows.iadd_str ?_ (by first | exact fit5 (by assumption) (shownB_len _ _) | exact fit5 (by assumption) (one_len _) | exact fit5 (by assumption) (xh_len _ _))); intro _ _))
local macro_rules | `(tactic| walk_at "compareOp In") => `(tactic| (k_here; (with_reducible show wpAny _ _ (compareOp CmpOp.In (Value.int _ _) (Value.bytes _ _)) _ _ _); refine in_bytes (by decide) (by decide) ?_))
local macro_rules | `(tactic| walk_at "compareOp In int ref") => `(tactic| (k_here; (with_reducible show wpAny _ _ (compareOp CmpOp.In (Value.int _ _) (Value.ref _)) _ _ _); k_dflt (refine' in_signs ?T ?e ?hq ?hs ?_ ?_; (case T => k_tabat); (case e => exact rfl); (case hq => first | exact .inl rfl | exact .inr rfl); (case hs => decide +kernel)) <;> intro hInT))
local macro_rules | `(tactic| walk_at "subscriptTail") => `(tactic| (k_here; (with_reducible show wpAny _ _ (subscriptTail _ _ (Value.ref _) (Value.int _ _)) _ _ _); k_dflt (refine' item_signs ?T ?e ?hq ?hs ?hi ?_; (case T => k_tabat); (case e => exact rfl); (case hq => first | exact .inl rfl | exact .inr rfl); (case hs => decide +kernel); (case hi => assumption)); intro _))
local macro_rules | `(tactic| walk_at "subscriptTail") => `(tactic| (k_here; (with_reducible show wpAny _ _ (subscriptTail _ _ (Value.str _ _) (Value.int _ _)) _ _ _); (refine item_hex (by first | exact (mod16 _).1 | exact (div16 (by assumption) (by assumption)).1) (by first | exact (mod16 _).2 | exact (div16 (by assumption) (by assumption)).2) ?_)))
local macro_rules | `(tactic| walk_at "compareOp NotIn") => `(tactic| (k_here; (with_reducible show wpAny _ _ (compareOp CmpOp.NotIn (Value.int _ _) (Value.bytes _ _)) _ _ _); refine notIn_bytes (by decide) (by decide) ?_))
local macro_rules | `(tactic| walk_at "exec For") => `(tactic| (k_here; (with_reducible show wpAny _ _ (exec (Stmt.For _ (Expr.Name _ _) _ _ _) _) _ _ _); (rename Fr _ _ _ _ => lF'); (with_unfolding_all refine' For_invVF lF' ?k1 ?k2 ?_; (case k1 => exact rfl); (case k2 => exact rfl); k_whole)))
local macro_rules | `(tactic| walk_at "pyIter bytes") => `(tactic| (
  k_here
  (with_reducible show wpAny _ _ (pyIter (Value.bytes _ _)) (fun it s₂ => LoopAtV _ _ _ _ _ _ _ _ _ it s₂) _ _)
  (rename Fr _ _ _ _ => lF'); (rename News _ _ _ _ => lN')
  (first
    | (with_unfolding_all refine' KStb.kst_bytes (σ := Str × Tok) (fun _ => _) (fun c => [(Str.ofString "text", Value.str c.1 c.2)]) (fun _ => True) [] (fun pre c => c.1 = litAcc 39 pre) (_, _) rfl rfl (by rfl) lF' lN' trivial ?hk ?hp ?_ ?_; (case hk => (intro p hp; cases List.mem_singleton.mp hp; with_unfolding_all rfl)); (case hp => (dsimp only; decide +kernel)))
    | (with_unfolding_all refine' KStb.kst_bytes (σ := Str × Tok) (fun _ => _) (fun c => [(Str.ofString "text", Value.str c.1 c.2)]) (fun _ => True) [] (fun pre c => c.1 = litAcc 34 pre) (_, _) rfl rfl (by rfl) lF' lN' trivial ?hk ?hp ?_ ?_; (case hk => (intro p hp; cases List.mem_singleton.mp hp; with_unfolding_all rfl)); (case hp => (dsimp only; decide +kernel))))
  (all_goals (try clear lF' lN'))
  rotate_left
  (rintro ⟨tx, ttx⟩ kU kH kTk kLen kFacts kInv kFr kNews)
  rotate_left
  (rintro ⟨tx, ttx⟩ kPre kPost kN kT kU kH kTk kOwn kEq kLt kN0 kN1 kOff kFacts kInv kFr kNews)
  (all_goals (dsimp only [kstB] at kFr kInv))
  (all_goals (have kXl := len_acc kInv (by first | (rw [KBw.ints_length]; assumption) | (rw [KBw.ints_length] at kLt; omega))))
  (all_goals (try k_fold))))
local macro_rules | `(tactic| walk_at "InvEndN") => `(tactic| ((rename News _ _ _ _ => nE9); (refine' kst_end (_, _) (by assumption) nE9 ?hn ?ho ?ha trivial ?hk ?hr ?hp); (case hn => exact fun p hp => List.mem_append_left _ hp); (case ho => exact fun p hp => List.mem_append_right _ hp); (case ha => rfl); (case hk => (intro p hp; cases List.mem_singleton.mp hp; with_unfolding_all rfl)); (case hr => kst_same); (case hp => (dsimp only; first | exact acc_tab (by assumption) (by decide +kernel) | exact acc_mid (by assumption) (by assumption) (by decide +kernel) (by assumption) (by assumption) | exact acc_lo (by assumption) (by assumption) (by decide +kernel) (by assumption) | exact acc_hi (by assumption) (by assumption) (by decide +kernel) (by assumption)))))

set_option maxRecDepth 100000 in
set_option maxHeartbeats 8000000 in
theorem written_c {w : World} {mean : ExcName → Option Value} {mg mb : Str → Option Value} {news : List (Addr × Obj)}
    (b : Array UInt8) (tt : Tok) (hb : b.size ≤ 1000)
    {dp un : Nat} {gd : Option (List Code)} {cn : Str} {cs : Scope} {a : Addr} {ccd : Value} {cl : List (Str × Addr)} {outer : List Env} {A₀ : Around} {base h₀ : Heap} {L : Addr} {m : Str → Option Value} {s : Shared} {Q E : Value → Shared → Prop}
    (B : Below A₀ base outer h₀) (F : Fr h₀ L s.heap m) (X : (hd.heap_39 w.params).In h₀) (N : News h₀ L s.heap news) (T : Top hd.view_39 (looseW hd.view_39 [Str.ofString "_IPAddressBase", Str.ofString "_BaseConstants"]) mean mg mb h₀) (hk : cs.kind = .function)
    (hd1 : dp + 3 < recursionLimit) (hu : un + 8 < cLine)
    
    (ret : ∀ (t' : Tok) (h' : Heap) (tk' : Nat), Fr h₀ L h' m → News h₀ L h' news → Q (.str (Builtin.Bytes.literal b) t') { s with heap := h', toks := tk' }) :
    wpAny (model Challenge.rw_dm0179_05.row.prog w) (ktrTop dp un gd cn cs L a ccd cl outer) (call (.ref 183) [.bytes b tt]) Q E s := by
  revert X; k_fill; intro X
  w_on
  have hMk9 := kstMark
  k_with_none
  w_strict (
  refine wpAny_call ?_
  (k_dflt cell_enter)
  k_steps
  skip)
  all_goals (first
    | exact q_str (lit_one (by assumption) (by assumption)) (ret _ _ _ (by assumption) (news_tl (by assumption)))
    | exact q_str (lit_two (by assumption) (by assumption)) (ret _ _ _ (by assumption) (news_tl (by assumption)))
    | exact q_str (lit_three (by assumption) (by assumption) (by assumption)) (ret _ _ _ (by assumption) (news_tl (by assumption))))
end Mine

namespace Mine
theorem row0 {t0 t1 t2 t3 t4 t5 t6 t7 t8 t9 ta tb tc td te tf tg : Tok} : IntsAre [.int 0 t0, .int 9 t1, .int 10 t2, .int 13 t3, .int 31 t4, .int 32 t5, .int 34 t6, .int 39 t7, .int 65 t8, .int 92 t9, .int 126 ta, .int 127 tb, .int 128 tc, .int 160 td, .int 255 te, .int 39 tf, .int 92 tg]
    [0, 9, 10, 13, 31, 32, 34, 39, 65, 92, 126, 127, 128, 160, 255, 39, 92] := by repeat (first | exact .nil | refine .cons _ _ ?_)
theorem row0_in : ∀ v ∈ ([0, 9, 10, 13, 31, 32, 34, 39, 65, 92, 126, 127, 128, 160, 255, 39, 92] : List Int), 0 ≤ v ∧ v < 256 := by decide
theorem len66 {l : List Int} (h : ¬ (63 : Int) < (l.length : Int)) : ([39, 290, 405258] ++ l).length ≤ 66 := by simp; omega
end Mine

open Mine
local macro_rules | `(tactic| walk_at "exec For") => `(tactic| (k_here; (with_reducible show wpAny _ _ (exec (Stmt.For _ (Expr.BinOp _ _ _ _) _ _ _) _) _ _ _); (rename Fr _ _ _ _ => lF'); (with_unfolding_all refine' For_invVF lF' ?k1 ?k2 ?_; (case k1 => exact rfl); (case k2 => exact rfl); k_whole)))
local macro_rules | `(tactic| walk_at "pyIter ref") => `(tactic| (
  k_here
  (with_reducible show wpAny _ _ (pyIter (Value.ref _)) (fun it s₂ => LoopAtV _ _ _ _ _ _ _ _ _ it s₂) _ _)
  (rename Fr _ _ _ _ => lF'); (rename News _ _ _ _ => lN')
  (with_unfolding_all refine' loop5 [Str.ofString "y", Str.ofString "data", Str.ofString "written", Str.ofString "version", Str.ofString "expected", Str.ofString "due", Str.ofString "words", Str.ofString "told", Str.ofString "error"] (by rfl) ?k1 ?k2 lF' lN' row0 row0_in rfl ?_ ?_)
  (case k1 => assumption); (case k2 => exact len66 (by assumption))
  (all_goals (try clear lF' lN'))
  rotate_left
  (rintro kH kTk ⟨kM, kFr⟩)
  rotate_left
  (intro kVs kNs kC kEs kEn kF kG kPre kN kT kU kH kTk kOwn kI kR kV kL kP kOff kFr kNews)
  (simp only [List.cons_append, List.nil_append] at kNews)
  (have hMk9 := kstMark)
  (all_goals (try k_fold))))
local macro_rules | `(tactic| walk_at "call builtin:list.append") => `(tactic| (k_here; (with_reducible show wpAny _ _ (call (Value.builtin _) [Value.ref _, Value.int (Int.fmod _ 256) _]) _ _ _); k_dflt (refine' append_K ?k1 ?k2 ?k3 ?_ ?z; (case k1 => k_asm); (case k2 => k_asm); (case k3 => k_upd); (case z => (rename IntsAre _ _ => kI9; rename _ = 17 + List.length _ => kL9; rename List.length _ < 66 => kP9; rw [List.size_toArray, kI9.length, kL9, sizeLine_eq]; omega)); k_whole); intro h' F' N'; (rename IntsAre _ _ => kI9); (rename ∀ v ∈ _, 0 ≤ v ∧ v < (256 : Int) => kR9); (rename _ = 17 + List.length _ => kL9); obtain ⟨kVs1, kNs1, kE1, kI1, kR1, kL1⟩ := push5 kI9 kR9 kL9; rw [kE1] at N'; clear kE1 kI9 kR9 kL9; (try k_sweep)))
local macro_rules | `(tactic| walk_at "call builtin:len") => `(tactic| (k_here; (with_reducible show wpAny _ _ (call (Value.builtin "len") [Value.ref _]) _ _ _); k_dflt (refine' len5 ?N ?m ?h ?l ?p ?_; (case N => k_asm); (case m => k_mem); (case h => assumption); (case l => assumption); (case p => assumption))))
local macro_rules | `(tactic| walk_at "call builtin:len") => `(tactic| (k_here; (with_reducible show wpAny _ _ (call (Value.builtin "len") [Value.bytes _ _]) _ _ _); refine lenB5 (by assumption) ?_))
local macro_rules | `(tactic| walk_at "subscriptTail") => `(tactic| (k_here; (with_reducible show wpAny _ _ (subscriptTail _ _ (Value.ref _) (Value.int (Int.fmod _ 3) _)) _ _ _); (k_dflt (refine' pick5 ?N ?m ?_; (case N => k_asm); (case m => k_mem))); intro kI3 kT3 kLo3 kHi3))
local macro_rules | `(tactic| walk_at "subscriptTail Name Slice ref ref") => `(tactic| (k_here; (with_reducible show wpAny _ _ (subscriptTail _ (PySem.Expr.Slice _ _ none _) (Value.ref _) (Value.ref _)) _ _ _); k_dflt (refine' slice5 ?F ?N ?m ?i ?r ?l ?p ?a ?b ?_ ?s ?t; (case F => k_asm); (case N => k_asm); (case m => k_mem); (case i => assumption); (case r => assumption); (case l => assumption); (case p => assumption); (case a => assumption); (case b => assumption); (case s => with_unfolding_all rfl); (case t => kmk_pure)); intro D' ws' ms' h' F' N' l1 hI' hR' hL'; (try k_lt l1); (try k_sweep)))
local macro_rules | `(tactic| walk_at "call type:bytes") => `(tactic| (k_here; (with_reducible show wpAny _ _ (call (Value.type "bytes") [Value.ref _]) _ _ _); k_dflt (refine' bytes5 ?F ?N ?hh ?m ?i ?r ?l ?_; (case F => k_asm); (case N => k_asm); (case hh => rfl); (case m => k_mem); (case i => assumption); (case r => assumption); (case l => assumption)); intro h' b' t' k' F' N' hB1 hB2 hB3 hB4; (try k_sweep)))
local macro_rules | `(tactic| walk_at "call ref") => `(tactic| (k_here; (show wpAny _ _ (call (Value.ref 183) [Value.bytes _ _]) _ _ _); k_dflt (refine' written_c _ _ ?hb ?B ?F ?X ?N ?T ?hk ?hd ?hu ?_; (case hb => assumption); (case B => k_asm); (case F => k_asm); (case X => k_asm); (case N => k_asm); (case T => k_asm); (case hk => exact rfl); (case hd => ktr_room); (case hu => ktr_units)); intro t' h' tk' F' N'; (try k_sweep)))
local macro_rules | `(tactic| walk_at "setAttr ref") => `(tactic| (k_here; (with_reducible show wpAny _ _ (setAttr (Value.ref _) _ (Value.int (Int.fmod _ 100) _)) _ _ _); (rename VerPut _ _ _ _ => kV9); k_dflt (refine' set5 ?k1 ?k2 ?k3 ?k4 ?k5 ?k6 ?k7 ?k8 ?k9 kV9 ?k12 ?_; (case k1 => k_asm); (case k2 => k_asm); (case k3 => k_asm); (case k4 => k_inst); (case k5 => exact rfl); (case k6 => k_is); (case k7 => k_is); (case k8 => k_is); (case k9 => k_is); (case k12 => k_upd); k_whole); intro h' F' N' kV0 kV1; clear kV9; (try k_sweep)))
local macro_rules | `(tactic| walk_at "exec For Name Tuple cons nil") => `(tactic| (k_here; (with_reducible show wpAny _ _ (exec (Stmt.For _ (Expr.Tuple _ _ _) _ _ _) _) _ _ _); (rename Fr _ _ _ _ => lF'); (with_unfolding_all refine' For_invVF lF' ?k1 ?k2 ?_; (case k1 => exact rfl); (case k2 => exact rfl); k_whole)))
local macro_rules | `(tactic| walk_at "pyIter ref") => `(tactic| (
  k_here
  (with_reducible show wpAny _ _ (pyIter (Value.ref _)) (fun it s₂ => LoopAtV _ _ _ _ _ _ _ _ _ it s₂) _ _)
  (rename Fr _ _ _ _ => lF'); (rename News _ _ _ _ => lN')
  (with_unfolding_all refine' tup_loop [Str.ofString "due", Str.ofString "words", Str.ofString "told", Str.ofString "error"] (by rfl) lF' lN' rfl ⟨_, rfl⟩ (.cons _ _ (.cons _ _ (.cons _ _ .nil))) ?hne ?_ ?_)
  (case hne => exact kst_ltOf (by (simp only [AllLt]; assumption)))
  (all_goals (try clear lF' lN'))
  rotate_left
  (intro kU kH kTk kFr kNews)
  rotate_left
  (intro kN kT kU kH kTk kOwn kMem kOff kFr kNews)
  (obtain ⟨kM0, kM1⟩ := exp_in kMem)
  (simp only [List.cons_append, List.nil_append] at kNews)
  (all_goals (try k_fold))))
local macro_rules | `(tactic| walk_at "binaryOp Add str str") => `(tactic| (k_here; (with_reducible show wpAny _ _ (binaryOp Operator.Add (Value.str _ _) (Value.str _ _)) _ _ _); (first | (refine PyProof.Rows.add_str ?_ (Len.fit (Len.add (Len.add (Len.add (Len.add (Len.add (Len.add (Len.lit (by assumption)) (Len.str _)) (Len.int (by assumption) (by assumption))) (Len.str _)) (Len.int (by assumption) (by assumption))) (Len.str _)) (Len.int (by assumption) (by assumption))) (Len.str _) (by decide +kernel))) | (refine PyProof.Rows.add_str ?_ (Len.fit (Len.add (Len.add (Len.add (Len.add (Len.add (Len.lit (by assumption)) (Len.str _)) (Len.int (by assumption) (by assumption))) (Len.str _)) (Len.int (by assumption) (by assumption))) (Len.str _)) (Len.int (by assumption) (by assumption)) (by decide +kernel))) | (refine PyProof.Rows.add_str ?_ (Len.fit (Len.add (Len.add (Len.add (Len.add (Len.lit (by assumption)) (Len.str _)) (Len.int (by assumption) (by assumption))) (Len.str _)) (Len.int (by assumption) (by assumption))) (Len.str _) (by decide +kernel))) | (refine PyProof.Rows.add_str ?_ (Len.fit (Len.add (Len.add (Len.add (Len.lit (by assumption)) (Len.str _)) (Len.int (by assumption) (by assumption))) (Len.str _)) (Len.int (by assumption) (by assumption)) (by decide +kernel))) | (refine PyProof.Rows.add_str ?_ (Len.fit (Len.add (Len.add (Len.lit (by assumption)) (Len.str _)) (Len.int (by assumption) (by assumption))) (Len.str _) (by decide +kernel))) | (refine PyProof.Rows.add_str ?_ (Len.fit (Len.add (Len.lit (by assumption)) (Len.str _)) (Len.int (by assumption) (by assumption)) (by decide +kernel))) | (refine PyProof.Rows.add_str ?_ (Len.fit (Len.lit (by assumption)) (Len.str _) (by decide +kernel)))); intro _ _))
local macro_rules | `(tactic| walk_at "binaryOp Mod") => `(tactic| (k_here; (with_reducible show wpAny _ _ (binaryOp Operator.Mod (Value.str _ _) (Value.ref _)) _ _ _); k_dflt (refine' mod_msg ?N ?m ?hb ?n0 ?n1 ?e0 ?e1 ?v0 ?v1 ?_; (case N => k_asm); (case m => k_mem); (case hb => assumption); (case n0 => assumption); (case n1 => assumption); (case e0 => assumption); (case e1 => assumption); (case v0 => assumption); (case v1 => assumption)); intro _ _; (try dsimp only [msgOf])))
local macro_rules | `(tactic| walk_at "noteFrame ref") => `(tactic| (k_here; (rename RaisedS _ _ _ _ _ _ _ _ _ => rsX); kts_caught; (rename Got _ _ _ _ _ => gX); (rename News _ _ _ _ => nX); (obtain ⟨oX, tX, hEX, hTX, nM⟩ := got_merge (by assumption) gX nX); clear nX gX))
local macro_rules | `(tactic| walk_at "call type:type") => `(tactic| (k_here; (with_reducible show wpAny _ _ (call (Value.type "type") [Value.ref _]) _ _ _); (rename Got _ _ _ _ _ => gX); (rename News _ _ _ _ => nX); (obtain ⟨oX, tX, hEX, hTX, nM⟩ := got_merge (by assumption) gX nX); clear nX gX; (rename News _ _ _ _ => nM); k_dflt (refine' own_typeK nM ?m ?h ?b ?_; (case m => k_mem); (case h => assumption); (case b => rfl))))
local macro_rules | `(tactic| walk_at "call type:str") => `(tactic| (k_here; (with_reducible show wpAny _ _ (call (Value.type "str") [Value.ref _]) _ _ _); k_dflt (refine' own_strK ?F ?X ?N ?m ?h ?m2 ?h2 ?sub ?hs ?hu ?_; (case F => k_asm); (case X => k_asm); (case N => k_asm); (case m => k_mem); (case h => assumption); (case m2 => k_mem); (case h2 => assumption); (case sub => kernel_rfl); (case hs => kernel_rfl); (case hu => k_units))))
local macro_rules | `(tactic| walk_at "ite") => `(tactic| (k_here; (with_reducible show if ((_ : Int) != _) = true then _ else _); first | (refine PySem.W.ite_pos (bne_t (by assumption)) ?_) | (refine PySem.W.ite_neg (bne_f (by assumption)) ?_) | (refine ite_bne ?_ ?_ <;> intro hBne)))
local macro_rules | `(tactic| walk_at "InvEndN") => `(tactic| ((rename News _ _ _ _ => nE9); (refine' end5 (by assumption) nE9 ?h1 ?h2 ?h3 ?h4 ?h5 ?ho ?hi ?hr ?hl ?hz); (case h1 => k_mem); (case h2 => k_mem); (case h3 => k_mem); (case h4 => k_mem); (case h5 => k_mem); (case ho => (intro p hp; k_ownIn)); (case hi => assumption); (case hr => assumption); (case hl => assumption); (case hz => kst_same)))
local macro_rules | `(tactic| walk_at "compareOp NotEq ref ref") => `(tactic| (k_here; (with_reducible show wpAny _ _ (compareOp CmpOp.NotEq (Value.ref _) (Value.ref _)) _ _ _); k_dflt (refine' ne_pair ?npN ?npa ?npb ?npx ?npy ?npu ?_; (case npN => k_asm); (case npa => k_mem); (case npb => k_mem); (case npx => exact Okc.str _); (case npy => exact okc_msg _ _ _ _); (case npu => exact Nat.le_of_ble_eq_true rfl))))
set_option maxRecDepth 100000 in
set_option maxHeartbeats 8000000 in
theorem PySem.Challenge.cw_dm0179_05_holds : PySem.Challenge.rw_dm0179_05.Holds := by
  refine hd ?_
  k_with_none
  w_strict (k_go0; (all_goals try k_fold); k_steps)
