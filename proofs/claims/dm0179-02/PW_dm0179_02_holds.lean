import PyProof.Rows.All
import Wide.All
import OpenK.AllK
import Wide.FinOn
import Lean
import PySem.Challenge.RW_dm0179_02
open PySem PySem.W PyProof.Rows
set_option Elab.async false
set_option linter.unusedVariables false
set_option linter.unusedSimpArgs false

namespace Mine
set_option maxRecDepth 100000 in
set_option maxHeartbeats 8000000 in
open_top hd for PySem.Challenge.rw_dm0179_02
end Mine

namespace Mine
set_option maxRecDepth 100000
open PySem.Calls Builtin Builtin.BaseException Builtin.Exceptions

/-- an exception of an own class that stands in the heap -/
structure OwnE (K : Frag) (h : Heap) (e t C : Addr) (vs : List Value) : Prop where
  at_ : ∃ oe ws, h.get? e = some oe ∧ oe.cls = .ref C ∧ oe.data = .fields ws ∧ ws[0]? = some (.ref t)
  tup : h.TupAt t vs
  kin : K.In h
  sub : mroIn K C (.type "BaseException") = some true

section
variable {prog : Program} {w : World} {A : Around} {E : Value → Shared → Prop} {s : Shared} {K : Frag} {e t C : Addr} {vs : List Value}

theorem OwnE.ty {M : Model} {h : Heap} (o : OwnE K h e t C vs) : Looks M h (typeOf (.ref e)) (.ref C) := by
  obtain ⟨oe, ws, h1, h2, _⟩ := o.at_
  exact h2 ▸ (Looks.ld h1).andThen .now

theorem own_check {M : Model} {id n : String} {rest : List Value} {Q : Unit → Shared → Prop} (o : OwnE K s.heap e t C vs)
    (hk : builtinKind id = some .slot) (hsp : splitId id = some ("BaseException", n)) (ha : argsOk id ⟨.ref e :: rest, []⟩) (hq : Q () s) :
    wpAny M A (checkBuiltinCall id ⟨.ref e :: rest, []⟩) Q E s := by
  have L1 := o.ty (M := M)
  have L2 := looks_mroIn (M := M) o.kin o.sub
  have L3 : Looks M s.heap (isInstance (.ref e) (.type "BaseException")) true := L1.andThen L2
  simp only [checkBuiltinCall, hk, hsp]
  refine wpAny_bind (m := isInstance (.ref e) (.type "BaseException")) (L3.here ?_)
  unfold argsOk at ha
  simp only [Bool.not_true, Bool.false_eq_true, if_false]
  generalize Manifest.signature? id = sg at ha ⊢
  cases sg <;> exact wpAny_of_eq ha hq

theorem own_call {id n : String} {b : Builtin} {rest : List Value} {Q : Value → Shared → Prop} (o : OwnE K s.heap e t C vs)
    (hk : builtinKind id = some .slot) (hsp : splitId id = some ("BaseException", n)) (hpl : plainId id = true) (hb : entryFor table id = some b) (ha : argsOk id ⟨.ref e :: rest, []⟩)
    (hc : wpAny (model prog w) A.in1 (b ⟨.ref e :: rest, []⟩) (fun fin s' => ∃ v, fin = .done (.ret v) ∧ Q v s') E s) :
    wpAny (model prog w) A (call (.builtin id) (.ref e :: rest)) Q E s := by
  refine wpAny_call (codeAny_call_builtin hpl hb (own_check o hk hsp ha (wpAny_mono hc (fun fin s' h' => ?_) fun _ _ h' => h')))
  obtain ⟨v, rfl, hv⟩ := h'; exact hv

theorem own_bexcArgs {M : Model} {Q : Value × List Value → Shared → Prop} (o : OwnE K s.heap e t C vs) (hq : Q (.ref t, vs) s) :
    wpAny M A (bexcArgs (.ref e)) Q E s := by
  obtain ⟨oe, ws, ho, _, hd, h0⟩ := o.at_
  obtain ⟨ot, k, hto, _, htd⟩ := o.tup
  unfold bexcArgs
  refine wpAny_bind (wpAny_field ho hd h0 (wpAny_bind (wpAny_seqItems hto htd ?_)))
  have : vs.toArray.toList = vs := by simp
  show wpAny M A (pure (Value.ref t, vs.toArray.toList)) Q E s
  rw [this]; exact wpAny_pure hq

theorem own_str_entry {x : Str} {u : Tok} {Q : Fin → Shared → Prop} (o : OwnE K s.heap e t C [.str x u]) (hq : Q (.done (.ret (.str x u))) s) :
    wpAny (model prog w) A (Builtin.«BaseException.__str__» ⟨[.ref e], []⟩) Q E s := by
  unfold Builtin.«BaseException.__str__»
  repeat (first | with_reducible refine own_bexcArgs o ?_ | wp_step)
  exact hq

theorem own_str_call {x : Str} {u : Tok} {Q : Value → Shared → Prop} (o : OwnE K s.heap e t C [.str x u]) (hq : Q (.str x u) s) :
    wpAny (model prog w) A (call (.builtin "BaseException.__str__") [.ref e]) Q E s :=
  own_call (n := "__str__") o (by decide +kernel) (by decide +kernel) F.excStr_ValueError.str.plain F.entry_bexc_str (F.args_bexc_str _) (own_str_entry o ⟨_, rfl, hq⟩)

/-- a special method of an own exception's class that is a built-in's slot -/
theorem own_special {M : Model} {X id : String} {name : Str} {args : List Value} {Q : Option Value → Shared → Prop} (o : OwnE K s.heap e t C vs)
    (hs : findIn K (.ref C) name = some (some (.builtin id))) (h : Slot X name id) (hc : wpAny M A (call (.builtin id) (.ref e :: args)) (fun v => Q (some v)) E s) :
    wpAny M A (callSpecial? (.ref e) name args) Q E s := by
  have L : Looks M s.heap (specialOf (.ref e) name) (some (.builtin id)) := o.ty.andThen (looks_findIn o.kin hs)
  simp only [callSpecial?]
  refine wpAny_bind (L.here ?_)
  simp only [h.bind]
  exact wpAny_holding (wpAny_bind (wpAny_pure (wpAny_bind (wpAny_mono hc (fun v s' h' => wpAny_pure h') fun _ _ h' => h'))))

theorem own_specialB {M : Model} {X id : String} {name : Str} {args : List Value} {Q : Option Value → Shared → Prop} (o : OwnE K s.heap e t C vs)
    (hs : findIn K (.ref C) name = some (some (.builtin id))) (h : Slot X name id) (hc : wpAny M A (call (.builtin id) (.ref e :: args)) (fun v => Q (some v)) E s) :
    wpAny M A (callSpecialIfBound? (.ref e) name args) Q E s := by
  have L : Looks M s.heap (specialOf (.ref e) name) (some (.builtin id)) := o.ty.andThen (looks_findIn o.kin hs)
  simp only [callSpecialIfBound?, bindSpecialIfBound?]
  refine wpAny_holding (wpAny_bind (wpAny_bind (L.here ?_)))
  simp only [h.bind]
  refine wpAny_bind (wpAny_askSetting (wpAny_ite ?_))
  have fin : wpAny M A (call (.builtin id) ([.ref e] ++ args) >>= fun v => pure (some v)) Q E s :=
    wpAny_bind (wpAny_mono hc (fun v s' h' => wpAny_pure h') fun _ _ h' => h')
  split
  · exact wpAny_bind (wpAny_pure (wpAny_pure fin))
  · exact wpAny_tryCatch (wpAny_bind (wpAny_pure (wpAny_pure fin)))

theorem own_strOf {x : Str} {u : Tok} {Q : Value → Shared → Prop} (o : OwnE K s.heap e t C [.str x u]) (hs : findIn K (.ref C) "__str__" = some (some (.builtin "BaseException.__str__")))
    (hu : A.units < cLine) (hq : Q (.str x u) s) : wpAny (model prog w) A (Builtin.Str.strOf (.ref e)) Q E s := by
  unfold Builtin.Str.strOf
  repeat (first | with_reducible refine wpAny_cRoomFor hu ?_ | with_reducible refine own_special o hs F.excStr_ValueError.str (own_str_call o ?_) | wp_step)
  exact hq

theorem own_str {x : Str} {u : Tok} {Q : Value → Shared → Prop} (o : OwnE K s.heap e t C [.str x u]) (hs : findIn K (.ref C) "__str__" = some (some (.builtin "BaseException.__str__")))
    (hu : A.units + 2 < cLine) (hq : Q (.str x u) s) : wpAny (model prog w) A (call (.type "str") [.ref e]) Q E s :=
  callType_new F.called_str (by decide) (F.typeCall_str_1 _) (F.newCall_str_1 _) (fun obj => F.args_object_init_2 obj _) F.entry_str_new
    (PySem.meets_str_new (S := fun A' R s' => A'.units + 1 < cLine ∧ OwnE K s'.heap e t C [.str x u] ∧ R (.ok (.ret (.str x u))) s')
      fun _ _ A' _ _ hq => own_strOf (A := A'.in1) hq.2.1 hs hq.1 hq.2.2)
    ⟨(show A.units + 1 + 1 < cLine from hu), o, typeIs_str _ _ _, hq⟩

theorem own_name {M : Model} {cd : ClassData} {Q : String → Shared → Prop} (o : OwnE K s.heap e t C vs) (hc : clsIn K C = some cd) (hq : Q cd.name.toString s) :
    wpAny M A (typeNameOfWhole (.ref e)) Q E s := by
  unfold typeNameOfWhole shownTypeOf
  refine wpAny_bind (wpAny_bind (o.ty.here ?_))
  have e0 : ((Value.ref C) == Value.type "builtin_function_or_method") = false := rfl
  simp only [e0, Bool.false_eq_true, if_false]
  exact wpAny_pure (wpAny_bind ((looks_clsIn o.kin hc).here (wpAny_pure hq)))

theorem own_repr_entry {cd : ClassData} {x : Str} {u : Tok} {Q : Fin → Shared → Prop} (o : OwnE K s.heap e t C [.str x u]) (hc : clsIn K C = some cd)
    (hq : Q (.done (.ret (.str (excReprHead cd.name.toString ++ "(" ++ reprText x ++ ")") (s.toks + 1)))) { s with toks := s.toks + 1 + 1 }) (hsz : (excReprHead cd.name.toString ++ "(" ++ reprText x ++ ")").length ≤ sizeLine) :
    wpAny (model prog w) A (Builtin.bexcReprAt 0 ⟨[.ref e], []⟩) Q E s := by
  have e1 : (Str.ofString ((cd.name.toString.cutAt '.').getLastD "") ++ Str.ofString "(" ++ reprText x ++ Str.ofString ")").length ≤ sizeLine := hsz
  have hsz2 := e1
  have eP : (Str.ofString "(").length = 1 := by rw [PySem.ofString_length]; rfl
  rw [strLen_append, strLen_append, strLen_append, eP] at e1
  have hsz1 : (reprText x).length ≤ sizeLine := by omega
  have hpile : 0 + ((Str.ofString ((cd.name.toString.cutAt '.').getLastD "")).length + 1) ≤ sizeLine := by omega
  unfold Builtin.bexcReprAt
  repeat (first | with_reducible refine own_name o hc ?_ | with_reducible refine own_bexcArgs o ?_ | rw [pyReprUnder_leaf (v := .str x u) hpile (by intro a; nofun)] | with_reducible refine wpAny_pyRepr_str ?_ | wp_step)
  exact hq

theorem own_reprObj {cd : ClassData} {x : Str} {u : Tok} {Q : Value → Shared → Prop} (o : OwnE K s.heap e t C [.str x u]) (hc : clsIn K C = some cd) (hs : findIn K (.ref C) "__repr__" = some (some (.builtin "BaseException.__repr__")))
    (hu : A.units < cLine) (hq : Q (.str (excReprHead cd.name.toString ++ "(" ++ reprText x ++ ")") (s.toks + 1)) { s with toks := s.toks + 1 + 1 }) (hsz : (excReprHead cd.name.toString ++ "(" ++ reprText x ++ ")").length ≤ sizeLine) :
    wpAny (model prog w) A (pyReprObj (.ref e)) Q E s := by
  have L : Looks (model prog w) s.heap (specialOf (.ref e) "__repr__") (some (.builtin "BaseException.__repr__")) := o.ty.andThen (looks_findIn o.kin hs)
  unfold pyReprObj
  repeat (first | with_reducible refine wpAny_cRoomFor hu ?_ | with_reducible refine L.here ?_ | with_reducible refine own_specialB o hs F.excStr_ValueError.repr (own_call (n := "__repr__") o (by decide +kernel) (by decide +kernel) F.excStr_ValueError.repr.plain F.entry_bexc_repr (F.args_bexc_repr _) (own_repr_entry o hc ⟨_, rfl, ?_⟩ hsz)) | with_reducible refine wpAny_isInstance (typeIs_str _ _ _) isSubtype_str_str ?_ | wp_step)
  exact hq
end

structure ExcObj (oe : Obj) (cls : Value) (t : Addr) : Prop where
  cls_ : oe.cls = cls
  dat_ : ∃ ws, oe.data = .fields ws ∧ ws[0]? = some (.ref t)
structure TupObj (ot : Obj) (vs : List Value) : Prop where
  cls_ : ot.cls = .type "tuple"
  dat_ : ∃ n, ot.data = .seq vs.toArray n

theorem got_merge {h₀ h : Heap} {L e t : Addr} {n₂ led : List (Addr × Obj)} {cls : Value} {vs : List Value} (N₂ : News h₀ L h n₂) (G : Got n₂ e t cls vs) (N : News h₀ L h led) :
    ∃ oe ot, ExcObj oe cls t ∧ TupObj ot vs ∧ News h₀ L h ((e, oe) :: (t, ot) :: led) := by
  obtain ⟨oe, ot, ws, nt, h1, h2, hc, hd, h0, htc, htd⟩ := G
  refine ⟨oe, ot, ⟨hc, ws, hd, h0⟩, ⟨htc, nt, htd⟩, fun p hp => ?_⟩
  rcases List.mem_cons.mp hp with rfl | hp
  · exact N₂ _ h1
  rcases List.mem_cons.mp hp with rfl | hp
  · exact N₂ _ h2
  · exact N p hp

section
variable {prog : Program} {w : World} {A : Around} {E : Value → Shared → Prop} {s : Shared} {K : Frag} {e t C L : Addr} {vs : List Value} {h₀ : Heap} {m : Str → Option Value} {news : List (Addr × Obj)} {oe ot : Obj} {Q : Value → Shared → Prop}

theorem ownE_of (F : Fr h₀ L s.heap m) (X₀ : K.In h₀) (N : News h₀ L s.heap news) (m1 : (e, oe) ∈ news) (hE : ExcObj oe (.ref C) t) (m2 : (t, ot) ∈ news) (hT : TupObj ot vs) (sub : mroIn K C (.type "BaseException") = some true) : OwnE K s.heap e t C vs := by
  obtain ⟨ws, hd, h0⟩ := hE.dat_
  obtain ⟨n, hn⟩ := hT.dat_
  exact ⟨⟨oe, ws, (N _ m1).1, hE.cls_, hd, h0⟩, ⟨ot, n, (N _ m2).1, hT.cls_, hn⟩, X₀.keeps F.keep, sub⟩

theorem own_strK {x : Str} {u : Tok} (F : Fr h₀ L s.heap m) (X₀ : K.In h₀) (N : News h₀ L s.heap news) (m1 : (e, oe) ∈ news) (hE : ExcObj oe (.ref C) t) (m2 : (t, ot) ∈ news) (hT : TupObj ot [.str x u])
    (sub : mroIn K C (.type "BaseException") = some true) (hs : findIn K (.ref C) "__str__" = some (some (.builtin "BaseException.__str__"))) (hu : A.units + 2 < cLine) (hq : Q (.str x u) s) :
    wpAny (model prog w) A (call (.type "str") [.ref e]) Q E s := own_str (ownE_of F X₀ N m1 hE m2 hT sub) hs hu hq

theorem own_reprK {cd : ClassData} {x : Str} {u : Tok} (F : Fr h₀ L s.heap m) (X₀ : K.In h₀) (N : News h₀ L s.heap news) (m1 : (e, oe) ∈ news) (hE : ExcObj oe (.ref C) t) (m2 : (t, ot) ∈ news) (hT : TupObj ot [.str x u])
    (sub : mroIn K C (.type "BaseException") = some true) (hc : clsIn K C = some cd) (hs : findIn K (.ref C) "__repr__" = some (some (.builtin "BaseException.__repr__"))) (hu : A.units < cLine)
    (hsz : (excReprHead cd.name.toString ++ "(" ++ reprText x ++ ")").length ≤ sizeLine) (hq : Q (.str (excReprHead cd.name.toString ++ "(" ++ reprText x ++ ")") (s.toks + 1)) { s with toks := s.toks + 1 + 1 }) :
    wpAny (model prog w) A (pyReprObj (.ref e)) Q E s := own_reprObj (ownE_of F X₀ N m1 hE m2 hT sub) hc hs hu hq hsz

theorem own_typeK {cls : Value} (N : News h₀ L s.heap news) (m1 : (e, oe) ∈ news) (hE : ExcObj oe cls t) (hnb : (cls == .type "builtin_function_or_method") = false) (hq : Q cls s) :
    wpAny (model prog w) A (call (.type "type") [.ref e]) Q E s := by
  obtain ⟨h, g, d, tk, os⟩ := s
  exact call_type_obj (N.get m1) (by rw [hE.cls_]; exact hnb) (by rw [hE.cls_]; exact hq)

def excInQ (K : Frag) (C : Addr) (bmB : List Value) (newId : String) : Bool := match K.lookup C with
  | some ⟨.type "type", _, .cls cd, sl⟩ => (match cd.mro, sl.toList with
    | .ref C' :: bm, [_, _, _, _, some (.builtin n), _] => C' == C && n == newId && !cd.hasDel && bm == bmB && nsOkIn K cd.ns && quietNames.all (fun q => nsIn K cd.ns q == some none)
    | _, _ => false)
  | _ => false

theorem ownQ_of_in {K : Frag} {h₀ : Heap} {C : Addr} {bmB : List Value} {newId : String} (X : K.In h₀) (q : excInQ K C bmB newId = true) : OwnClsQ Str.empty C bmB newId (fun _ => some (.ref C)) h₀ := by
  refine ⟨rfl, ?_⟩
  unfold excInQ at q
  split at q
  · rename_i dd cd sl ho
    split at q
    · rename_i C' bm k0 k1 k2 k3 n k5 hm hs
      simp only [Bool.and_eq_true, beq_iff_eq, Bool.not_eq_true'] at q
      obtain ⟨⟨⟨⟨⟨rfl, rfl⟩, hdel⟩, rfl⟩, hok⟩, hni⟩ := q
      obtain ⟨nm, bs, mro, ns, qn, hd, sn, sub, ab, col, del⟩ := cd
      dsimp only at hm hdel hok hni
      subst hm hdel
      have hsl : sl = #[k0, k1, k2, k3, some (.builtin n), k5] := by
        obtain ⟨l⟩ := sl
        simp only at hs
        rw [hs]
      subst hsl
      refine ⟨bm, ns, nm, qn, bs, hd, sn, sub, ab, col, dd, k0, k1, k2, k3, k5, _, X _ _ ho, .of_isNs (isNs_of_in X hok), fun y hy => ?_, .base⟩
      have := List.all_eq_true.mp hni y hy
      exact nsMap_none_of_in X hok (by simpa using this)
    · cases q
  · cases q

theorem own_argsK {newId : String} {expr : Bool} (F : Fr h₀ L s.heap m) (X₀ : K.In h₀) (q : excInQ K C [.type "ValueError", .type "Exception", .type "BaseException", .type "object"] newId = true)
    (N : News h₀ L s.heap news) (m1 : (e, oe) ∈ news) (hE : ExcObj oe (.ref C) t) (hq : Q (.ref t) { s with toks := s.toks + 1 }) : wpAny (model prog w) A (getAttr (.ref e) "args" expr) Q E s := by
  obtain ⟨h, g, d, tk, os⟩ := s
  obtain ⟨ws, hd, h0⟩ := hE.dat_
  exact args_of_own PySem.F.attrBase_ValueError (ownQ_of_in (X₀.keeps F.keep) q) (N _ m1).1 hE.cls_ hd h0 hq

theorem own_newK {newId initId : String} {rest : List Value} (FB : ExcBaseFacts "ValueError" newId initId [.type "ValueError", .type "Exception", .type "BaseException", .type "object"]) (F : Fr h₀ L s.heap m) (X₀ : K.In h₀)
    (q : excInQ K C [.type "ValueError", .type "Exception", .type "BaseException", .type "object"] newId = true) (N : News h₀ L s.heap news)
    (hq : ∀ h' e t oe ot, Fr h₀ L h' m → News h₀ L h' ((e, oe) :: (t, ot) :: news) → ExcObj oe (.ref C) t → TupObj ot rest → (∀ p ∈ news, p.1 ≠ e) → (∀ p ∈ news, p.1 ≠ t) → Q (.ref e) { s with heap := h' })
    (hrest : rest.length ≤ sizeLine) : wpAny (model prog w) A (call (.ref C) rest) Q E s := by
  obtain ⟨h, g, d, tk, os⟩ := s
  obtain ⟨bm, ns, nm, qn, bs, hd, sn, sub, ab, col, dd, k0, k1, k2, k3, k5, mN, hC, hN, hni, T⟩ := (ownQ_of_in (X₀.keeps F.keep) q).obj
  refine wpAny_call_exc_subT FB T.tail hC hN (hni _ (.head _)) (fun h' e M => ?_) hrest
  obtain ⟨t, he, htn, ht⟩ := M.there
  have F' : Fr h₀ L h' m := F.keeps M.keeps
  have nk : ∀ b, h.get? b = none → h₀.get? b = none := fun b hb => by
    cases q : h₀.get? b with
    | none => rfl
    | some o => have := F.keep b o q; rw [show (⟨h, g, d, tk, os⟩ : Shared).heap = h from rfl, hb] at this; cases this
  have nL : ∀ b, h.get? b = none → b ≠ L := fun b hb e => by
    obtain ⟨oL, _, _, hL, _⟩ := F.ns
    rw [← e, show (⟨h, g, d, tk, os⟩ : Shared).heap = h from rfl, hb] at hL; cases hL
  have ne : ∀ b, h.get? b = none → ∀ p ∈ news, p.1 ≠ b := fun b hb p hp e => by
    have := (N p hp).1
    rw [e, show (⟨h, g, d, tk, os⟩ : Shared).heap = h from rfl, hb] at this; cases this
  refine hq h' e t { cls := .ref C, data := .fields #[.ref t, .none, .none, .none, .bool false, .none] } { cls := .type "tuple", data := .seq rest.toArray } F' (fun p hp => ?_) ⟨rfl, _, rfl, rfl⟩ ⟨rfl, _, rfl⟩ (ne _ M.new) (ne _ htn)
  rcases List.mem_cons.mp hp with rfl | hp
  · exact ⟨he, nL _ M.new, nk _ M.new⟩
  rcases List.mem_cons.mp hp with rfl | hp
  · exact ⟨ht, nL _ htn, nk _ htn⟩
  · exact ⟨M.keeps _ _ (N p hp).1, (N p hp).2⟩
end
end Mine

namespace Mine
set_option maxRecDepth 100000
def Printable (t : Str) : Prop := ∀ c ∈ t.cps.toList, 32 ≤ c ∧ c < 127

theorem flat_free (z : List Nat) (c : Nat) (l : List Nat) : c ∉ l → l.flatMap (fun d => if d = c then z else [d]) = l := by
  induction l with
  | nil => intro _; rfl
  | cons a r ih =>
    intro hc
    rw [List.flatMap_cons, ih (fun m => hc (.tail _ m)), if_neg (fun e => hc (by rw [e]; exact .head _))]
    rfl

theorem join_flat (z : Str) (c : Nat) : ∀ parts : List Str, (∀ p ∈ parts, c ∉ p.cps.toList) →
    (Str.join z parts).cps.toList = (Str.join ⟨#[c]⟩ parts).cps.toList.flatMap (fun d => if d = c then z.cps.toList else [d])
  | [], _ => rfl
  | [p], h => (flat_free z.cps.toList c p.cps.toList (h p (.head _))).symm
  | p :: q :: r, h => by
    have ih := join_flat z c (q :: r) fun a ha => h a (.tail _ ha)
    show (p ++ z ++ Str.join z (q :: r)).cps.toList = (p ++ ⟨#[c]⟩ ++ Str.join ⟨#[c]⟩ (q :: r)).cps.toList.flatMap _
    simp only [Str.cps_append, Array.toList_append, List.flatMap_append]
    rw [ih, flat_free z.cps.toList c p.cps.toList (h p (.head _))]
    simp

theorem cut_same {c : Nat} : ∀ {p p' r r' : List Nat}, c ∉ p → c ∉ p' → p ++ c :: r = p' ++ c :: r' → p = p' ∧ r = r'
  | [], [], _, _, _, _, e => ⟨rfl, by simpa using e⟩
  | [], a :: _, _, _, _, h', e => by
    simp only [List.nil_append, List.cons_append, List.cons.injEq] at e
    exact absurd (by rw [e.1]; exact List.Mem.head _) h'
  | a :: _, [], _, _, h, _, e => by
    simp only [List.nil_append, List.cons_append, List.cons.injEq] at e
    exact absurd (by rw [← e.1]; exact List.Mem.head _) h
  | a :: p, b :: p', r, r', h, h', e => by
    simp only [List.cons_append, List.cons.injEq] at e
    obtain ⟨h1, h2⟩ := cut_same (fun m => h (.tail _ m)) (fun m => h' (.tail _ m)) e.2
    exact ⟨by rw [e.1, h1], h2⟩

theorem join_inj {c : Nat} : ∀ {ps qs : List Str}, ps ≠ [] → qs ≠ [] → (∀ p ∈ ps, c ∉ p.cps.toList) → (∀ p ∈ qs, c ∉ p.cps.toList) → Str.join ⟨#[c]⟩ ps = Str.join ⟨#[c]⟩ qs → ps = qs
  | [], _, h, _, _, _, _ => absurd rfl h
  | _, [], _, h, _, _, _ => absurd rfl h
  | [p], [q], _, _, _, _, e => by rw [show p = q from e]
  | [p], q :: q' :: r, _, _, h, _, e => by
    have e' : p = q ++ ⟨#[c]⟩ ++ Str.join ⟨#[c]⟩ (q' :: r) := e
    exact absurd (by rw [e']; simp [Str.cps_append]) (h p (.head _))
  | p :: p' :: r, [q], _, _, _, h, e => by
    have e' : p ++ ⟨#[c]⟩ ++ Str.join ⟨#[c]⟩ (p' :: r) = q := e
    exact absurd (by rw [← e']; simp [Str.cps_append]) (h q (.head _))
  | p :: p' :: r, q :: q' :: r', _, _, h, h', e => by
    have e' : p ++ ⟨#[c]⟩ ++ Str.join ⟨#[c]⟩ (p' :: r) = q ++ ⟨#[c]⟩ ++ Str.join ⟨#[c]⟩ (q' :: r') := e
    have e2 : p.cps.toList ++ c :: (Str.join ⟨#[c]⟩ (p' :: r)).cps.toList = q.cps.toList ++ c :: (Str.join ⟨#[c]⟩ (q' :: r')).cps.toList := by
      have := congrArg (fun x : Str => x.cps.toList) e'
      simpa [Str.cps_append] using this
    obtain ⟨h1, h2⟩ := cut_same (h p (.head _)) (h' q (.head _)) e2
    have i := join_inj (c := c) (ps := p' :: r) (qs := q' :: r') (by simp) (by simp) (fun a ha => h a (.tail _ ha)) (fun a ha => h' a (.tail _ ha)) (Str.ext' (Array.toList_inj.mp h2))
    rw [i, show p = q from Str.ext' (Array.toList_inj.mp h1)]

theorem cnt_count (c : Nat) (l : List Nat) : cnt c l = (l.count c : Int) := by
  induction l with
  | nil => rw [cnt_nil]; rfl
  | cons n r ih =>
    rw [cnt_cons, ih, List.count_cons]
    by_cases h : n = c
    · simp [h]; omega
    · simp [h]

theorem split_count (x : Str) (c : Nat) : (Txt.split x ⟨#[c]⟩).length = 1 + x.cps.toList.count c := by
  have := split_len x c
  rw [cnt_count] at this
  omega

theorem split_join {c : Nat} {ps : List Str} (hne : ps ≠ []) (h : ∀ p ∈ ps, c ∉ p.cps.toList) : Txt.split (Str.join ⟨#[c]⟩ ps) ⟨#[c]⟩ = ps := by
  have hl := split_count (Str.join ⟨#[c]⟩ ps) c
  refine join_inj (c := c) (fun e => ?_) hne (StrLaws.split_free _ c) h (StrLaws.join_split _ _)
  rw [e] at hl
  simp at hl
  omega

theorem replace_flat (x z : Str) (c : Nat) : (Txt.replace x ⟨#[c]⟩ z).cps.toList = x.cps.toList.flatMap (fun d => if d = c then z.cps.toList else [d]) := by
  rw [StrLaws.replace_one, join_flat z c _ (StrLaws.split_free x c), StrLaws.join_split]

theorem printable_ascii : ∀ c < 127, 32 ≤ c → Unicode.isPrintable c = true := by decide +kernel

theorem reprText_toList (t : Str) : (reprText t).cps.toList = reprQuote t :: (t.cps.toList.flatMap (Builtin.Str.reprChar (reprQuote t)) ++ [reprQuote t]) := by
  have : ∀ (q : Nat) (l : List Nat) (acc : Array Nat), (l.foldl (fun out c => out ++ (Builtin.Str.reprChar q c).toArray) acc).toList = acc.toList ++ l.flatMap (Builtin.Str.reprChar q) := by
    intro q l
    induction l with
    | nil => intro acc; simp
    | cons a r ih => intro acc; rw [List.foldl_cons, ih, List.flatMap_cons]; simp
  unfold reprText
  rw [← Array.foldl_toList, Array.toList_push, this]
  rfl

theorem quoted_repr (t : Str) (hp : Printable t) (m : Nat) (hm : m = reprQuote t) :
    (⟨#[m]⟩ : Str) ++ Txt.replace (Txt.replace t ⟨#[92]⟩ ⟨#[92, 92]⟩) ⟨#[m]⟩ ⟨#[92, m]⟩ ++ ⟨#[m]⟩ = reprText t := by
  have hm2 : m = 39 ∨ m = 34 := by rw [hm]; unfold reprQuote; split <;> simp
  refine Str.ext' (Array.toList_inj.mp ?_)
  rw [reprText_toList, ← hm]
  simp only [Str.cps_append, Array.toList_append, replace_flat, List.flatMap_assoc]
  have : ∀ l : List Nat, (∀ c ∈ l, 32 ≤ c ∧ c < 127) → l.flatMap (fun x => (if x = 92 then [92, 92] else [x]).flatMap fun d => if d = m then [92, m] else [d]) = l.flatMap (Builtin.Str.reprChar m) := by
    intro l hl
    induction l with
    | nil => rfl
    | cons c r ih =>
      rw [List.flatMap_cons, List.flatMap_cons, ih fun d hd => hl d (.tail _ hd)]
      congr 1
      have hc := hl c (.head _)
      unfold Builtin.Str.reprChar
      by_cases h1 : c = 92
      · subst h1
        rcases hm2 with rfl | rfl <;> simp
      · by_cases h2 : c = m
        · subst h2; simp [h1]
        · have e1 : (c == m) = false := by simpa using h2
          have e2 : (c == 92) = false := by simpa using h1
          have e3 : (c == 10) = false := by simp; omega
          have e4 : (c == 13) = false := by simp; omega
          have e5 : (c == 9) = false := by simp; omega
          simp [h1, h2, e1, e2, e3, e4, e5, printable_ascii c hc.2 hc.1]
  have e := this t.cps.toList hp
  simp only [List.flatMap] at e ⊢
  simp [e]

theorem quote_one (t : Str) (c : Nat) : (Builtin.Str.occurrences t ⟨#[c]⟩ 0 t.length 1).isEmpty = !t.cps.contains c := by
  have h := StrLaws.found_one t c
  have e : t.cps.contains c = decide (c ∈ t.cps.toList) := by
    by_cases hc : c ∈ t.cps.toList
    · simp [hc]; exact Array.mem_toList_iff.mp hc
    · simp [hc]; intro m; exact hc (Array.mem_toList_iff.mpr m)
  rw [e, ← h, Bool.not_not]

theorem printable_repr {t : Str} (hp : Printable t) : Printable (reprText t) := by
  intro c hc
  rw [reprText_toList] at hc
  have hq : reprQuote t = 39 ∨ reprQuote t = 34 := by unfold reprQuote; split <;> simp
  have hq' : 32 ≤ reprQuote t ∧ reprQuote t < 127 := by omega
  rcases List.mem_cons.mp hc with rfl | hc
  · exact hq'
  rcases List.mem_append.mp hc with hc | hc
  · obtain ⟨d, hd, hc⟩ := List.mem_flatMap.mp hc
    have hd' := hp d hd
    unfold Builtin.Str.reprChar at hc
    have e3 : (d == 10) = false := by simp; omega
    have e4 : (d == 13) = false := by simp; omega
    have e5 : (d == 9) = false := by simp; omega
    simp only [e3, e4, e5, printable_ascii d hd'.2 hd'.1, Bool.false_eq_true, if_false, if_true] at hc
    split at hc
    · rcases List.mem_cons.mp hc with rfl | hc
      · omega
      · rw [List.mem_singleton.mp hc]; exact hd'
    · rw [List.mem_singleton.mp hc]; exact hd'
  · rw [List.mem_singleton.mp hc]; exact hq'

theorem printable_app {a b : Str} (ha : Printable a) (hb : Printable b) : Printable (a ++ b) := by
  intro c hc
  rw [Str.cps_append, Array.toList_append] at hc
  rcases List.mem_append.mp hc with h | h
  · exact ha c h
  · exact hb c h

theorem repr_len {t : Str} (hp : Printable t) : (reprText t).length ≤ 2 * t.length + 2 := by
  have : (reprText t).length = (reprText t).cps.toList.length := by simp [Str.length]
  rw [this, reprText_toList]
  have h : ∀ l : List Nat, (∀ c ∈ l, 32 ≤ c ∧ c < 127) → (l.flatMap (Builtin.Str.reprChar (reprQuote t))).length ≤ 2 * l.length := by
    intro l hl
    induction l with
    | nil => simp
    | cons d r ih =>
      have := ih fun x hx => hl x (.tail _ hx)
      have hd' := hl d (.head _)
      have : (Builtin.Str.reprChar (reprQuote t) d).length ≤ 2 := by
        unfold Builtin.Str.reprChar
        have e3 : (d == 10) = false := by simp; omega
        have e4 : (d == 13) = false := by simp; omega
        have e5 : (d == 9) = false := by simp; omega
        simp only [e3, e4, e5, printable_ascii d hd'.2 hd'.1, Bool.false_eq_true, if_false, if_true]
        split <;> simp
      rw [List.flatMap_cons, List.length_append, List.length_cons]
      omega
  have := h t.cps.toList hp
  have e : t.length = t.cps.toList.length := by simp [Str.length]
  simp only [List.length_cons, List.length_append, List.length_nil]
  omega

end Mine

namespace Mine
set_option maxRecDepth 100000
open PySem.Calls PySem.Spec PySem.SeqAt
theorem strOk_print {x : Str} (h : Printable x) : PyData.canLay0 (.str x) = true := by
  simp only [PyData.canLay0]
  show x.cps.all (fun c => decide (c < 0x110000)) = true
  rw [← Array.all_toList, List.all_eq_true]
  intro c hc
  have := h c hc
  simp
  omega
theorem canLay_strs : ∀ ss : List Str, (∀ p ∈ ss, Printable p) → PyData.canLayAll0 (ss.map PyData.str) = true
  | [], _ => by simp [PyData.canLayAll0]
  | a :: r, h => by
    simp only [List.map_cons, PyData.canLayAll0, Bool.and_eq_true]
    exact ⟨strOk_print (h a (.head _)), canLay_strs r fun p hp => h p (.tail _ hp)⟩
theorem depth_strs : ∀ ss : List Str, PyData.depthAll (ss.map PyData.str) ≤ 1
  | [] => by simp [PyData.depthAll]
  | a :: r => by
    have := depth_strs r
    simp only [List.map_cons, PyData.depthAll, PyData.depth]
    omega
theorem shaped_strs {ss : List Str} (h : ∀ p ∈ ss, Printable p) : shaped (.list (ss.map PyData.str)) = true := by
  have h1 := depth_strs ss
  have h2 : PyData.depth (.list (ss.map PyData.str)) ≤ 64 := by simp only [PyData.depth]; omega
  show (PyData.canLay0 (.list (ss.map PyData.str)) && decide (PyData.depth (.list (ss.map PyData.str)) ≤ 64)) = true
  rw [Bool.and_eq_true]
  exact ⟨by simp only [PyData.canLay0]; exact canLay_strs ss h, decide_eq_true h2⟩
theorem shaped_tup1 {x : Str} (h : Printable x) : shaped (.tuple [PyData.str x]) = true := by
  show (PyData.canLay0 (.tuple [PyData.str x]) && decide (PyData.depth (.tuple [PyData.str x]) ≤ 64)) = true
  rw [Bool.and_eq_true]
  refine ⟨?_, by simp [PyData.depth, PyData.depthAll]⟩
  have := canLay_strs [x] fun p hp => by rw [List.mem_singleton.mp hp]; exact h
  simp only [PyData.canLay0]
  exact this
section
variable {prog : Program} {w : World} {A : Around} {E : Value → Shared → Prop} {s : Shared} {a b : Addr} {Q : Value → Shared → Prop}
theorem ne_lists {xs ys : List Value} {ss : List Str} {h₀ : Heap} {L : Addr} {news : List (Addr × Obj)} {c d : Nat} (N : News h₀ L s.heap news) (ha : (a, W.listOf xs.toArray c) ∈ news) (hb : (b, W.listOf ys.toArray d) ∈ news) (hi : StrsAre xs ss) (hj : StrsAre ys ss) (hp : ∀ p ∈ ss, Printable p) (hu : A.units + 64 < cLine) (h : Q (.bool false) s) :
    wpAny (model prog w) A (compareOp .NotEq (.ref a) (.ref b)) Q E s := by
  have hla : s.heap.IsList a xs.toArray := ⟨_, (N _ ha).1, rfl, c, rfl⟩
  have hlb : s.heap.IsList b ys.toArray := ⟨_, (N _ hb).1, rfl, d, rfl⟩
  refine ne_dataH (reads_newData hla (StrsAre.carried hi)) (reads_newData hlb (StrsAre.carried hj)) (shaped_strs hp) (shaped_strs hp) hu ?_
  rw [eqv_refl _ (by simp only [PyData.canLay0]; exact canLay_strs ss hp)]
  exact h
theorem ne_tup1 {x y : Str} {u v : Tok} {oa ob : Obj} {h₀ : Heap} {L : Addr} {news : List (Addr × Obj)} (N : News h₀ L s.heap news) (ha : (a, oa) ∈ news) (hb : (b, ob) ∈ news) (ta : TupObj oa [.str x u]) (tb : TupObj ob [.str y v]) (hp : Printable x) (e : x = y) (hu : A.units + 64 < cLine) (h : x = y → Q (.bool false) s) :
    wpAny (model prog w) A (compareOp .NotEq (.ref a) (.ref b)) Q E s := by
  subst e
  obtain ⟨n, hn⟩ := ta.dat_
  obtain ⟨k, hk⟩ := tb.dat_
  refine ne_dataH (Reads.tuple (N _ ha).1 ta.cls_ hn (ReadsAll.cons (Reads.str x u) ReadsAll.nil)) (Reads.tuple (N _ hb).1 tb.cls_ hk (ReadsAll.cons (Reads.str x v) ReadsAll.nil)) (shaped_tup1 hp) (shaped_tup1 hp) hu ?_
  rw [eqv_refl _ (by simp only [PyData.canLay0]; exact canLay_strs [x] fun p hp' => by rw [List.mem_singleton.mp hp']; exact hp)]
  exact h rfl
end
end Mine

namespace Mine
local macro_rules | `(tactic| k_room) => `(tactic| ktr_room)
local macro_rules | `(tactic| k_units) => `(tactic| ktr_units)
theorem news_drop4 {h₀ h : Heap} {L : Addr} {p a b c : Addr × Obj} {l : List (Addr × Obj)} (N : News h₀ L h (p :: a :: b :: c :: l)) : News h₀ L h (p :: l) := fun x hx => N x (by
  rcases List.mem_cons.mp hx with rfl | hx
  · exact .head _
  · exact .tail _ (.tail _ (.tail _ (.tail _ hx))))
def signsL : List Str := [Str.ofString "10.0.0.0", Str.ofString "8", Str.ofString "", Str.ofString "it's", Str.ofString "\"", Str.ofString "\\"]
def partAt (y k : Int) : Str := signsL.getD (((y.fdiv 4).fdiv (6 ^ k.toNat)).fmod 6).toNat Str.empty
def partsOf (y : Int) : List Str := (rangeKs 0 (y.fmod 4 + 1).toNat).map (partAt y)
def Pow6 (p k : Int) : Prop := p = 6 ^ k.toNat
theorem kct_part {news : List (Addr × Obj)} {y p k : Int} {t : Tok} (h : Pow6 p k) : KCtEl news (partAt y k) (.str (signsL.getD (((y.fdiv 4).fdiv p).fmod 6).toNat Str.empty) t) news :=
  kct_el (by unfold partAt; rw [show p = 6 ^ k.toNat from h]) rfl rfl
section
open PySem.Calls
variable {prog : Program} {w : World} {A : Around} {E : Value → Shared → Prop} {s : Shared} {Q : Value → Shared → Prop}
theorem pow6 {n : Int} {t u : Tok} (hn : 0 ≤ n) (hn2 : n < 4) (h : ∀ p : Int, Pow6 p n → 0 < p → p ≤ 216 → Q (.int p s.toks) { s with toks := s.toks + 1 }) :
    wpAny (model prog w) A (binaryOp .Pow (.int 6 t) (.int n u)) Q E s :=
  pow_int_small hn (by omega) (by decide) (h _ rfl (Int.pow_pos (by decide)) (by
    have : n = 0 ∨ n = 1 ∨ n = 2 ∨ n = 3 := by omega
    rcases this with rfl | rfl | rfl | rfl <;> decide))
theorem fdiv_by {a p : Int} {t u : Tok} (hp : 0 < p) (hp1 : p ≤ 216) (h : Q (.int (a.fdiv p) s.toks) { s with toks := s.toks + 1 }) :
    wpAny (model prog w) A (binaryOp .FloorDiv (.int a t) (.int p u)) Q E s := floordiv_int (by omega) h (Or.inl (PyProof.noPylong_small (by omega)))
theorem sub_signs {value slice : PySem.Expr} {h₀ : Heap} {L l : Addr} {news : List (Addr × Obj)} {s0 s1 s2 s3 s4 s5 : Str} {t0 t1 t2 t3 t4 t5 u : Tok} {n : Nat} {i : Int} (N : News h₀ L s.heap news) (hl : (l, W.listOf #[.str s0 t0, .str s1 t1, .str s2 t2, .str s3 t3, .str s4 t4, .str s5 t5] n) ∈ news)
    (h0 : 0 ≤ i) (h1 : i < 6) (h : ∀ t, Q (.str ([s0, s1, s2, s3, s4, s5].getD i.toNat Str.empty) t) s)
    (hs : subscripted slice false (.ref l) (.int i u) = operate [.ref l, .int i u] (getItem (.ref l) (.int i u)) := by with_unfolding_all rfl) :
    wpAny (model prog w) A (subscriptTail value slice (.ref l) (.int i u)) Q E s := by
  have hL : s.heap.IsList l #[.str s0 t0, .str s1 t1, .str s2 t2, .str s3 t3, .str s4 t4, .str s5 t5] := ⟨_, (N _ hl).1, rfl, n, rfl⟩
  have go : ∀ v, (#[.str s0 t0, .str s1 t1, .str s2 t2, .str s3 t3, .str s4 t4, .str s5 t5] : Array Value)[i.toNat]? = some v → Q v s → wpAny (model prog w) A (subscriptTail value slice (.ref l) (.int i u)) Q E s := fun v hv q =>
    tail_any hL.typeIs slot_list_getitem.lookup (wpAny_getItem_list hL h0 (by omega) hv q) hs
  have : i = 0 ∨ i = 1 ∨ i = 2 ∨ i = 3 ∨ i = 4 ∨ i = 5 := by omega
  rcases this with rfl | rfl | rfl | rfl | rfl | rfl
  · exact go _ rfl (h t0)
  · exact go _ rfl (h t1)
  · exact go _ rfl (h t2)
  · exact go _ rfl (h t3)
  · exact go _ rfl (h t4)
  · exact go _ rfl (h t5)
end
local macro_rules | `(tactic| walk_at "binaryOp Pow int int") => `(tactic| (k_here; (refine pow6 (by omega) (by omega) ?_); (intro pP hP hP0 hP1); (try dsimp only)))
local macro_rules | `(tactic| walk_at "binaryOp FloorDiv int int") => `(tactic| (k_here; (rename Pow6 _ _ => hP6); (refine fdiv_by (by assumption) (by assumption) ?_)))
local macro_rules | `(tactic| walk_at "subscriptTail") => `(tactic| (k_here; (rename Pow6 _ _ => hP6); (k_dflt (refine' sub_signs ?N ?m ?a ?b ?_; (case N => k_asm); (case m => k_mem); (case a => first | omega | exact Int.fmod_nonneg_of_pos _ (by decide)); (case b => first | omega | exact Int.fmod_lt_of_pos _ (by decide)))); intro _))
local macro_rules | `(tactic| walk_at "KCtEl") => `(tactic| ((rename Pow6 _ _ => hP6); exact kct_part hP6))
local macro_rules | `(tactic| walk_at "CompSrc") => `(tactic| k_extra "Mine.CompSrc")

set_option maxRecDepth 100000 in
set_option maxHeartbeats 8000000 in
theorem parts_c {w : World} {mean : ExcName → Option Value} {mg mb : Str → Option Value} {news : List (Addr × Obj)}
    (y : Int) (ty : Tok)
    {dp un : Nat} {gd : Option (List Code)} {cn : Str} {cs : Scope} {a : Addr} {ccd : Value} {cl : List (Str × Addr)} {outer : List Env} {A₀ : Around} {base h₀ : Heap} {L : Addr} {m : Str → Option Value} {s : Shared} {Q E : Value → Shared → Prop}
    (B : Below A₀ base outer h₀) (F : Fr h₀ L s.heap m) (X : (hd.heap_39 w.params).In h₀) (N : News h₀ L s.heap news) (T : Top hd.view_39 (looseW hd.view_39 []) mean mg mb h₀) (hk : cs.kind = .function)
    (hd1 : dp + 3 < recursionLimit) (hu : un + 8 < cLine)
    
    (ret : ∀ (l : Addr) (vs : List Value) (c : Nat) (h' : Heap) (tk' : Nat), Fr h₀ L h' m → News h₀ L h' ((l, W.listOf vs.toArray c) :: news) → StrsAre vs (partsOf y) → Q (.ref l) { s with heap := h', toks := tk' }) :
    wpAny (model Challenge.rw_dm0179_02.row.prog w) (ktrTop dp un gd cn cs L a ccd cl outer) (call (.ref 59) [.int y ty]) Q E s := by
  revert X; k_fill; intro X
  w_on
  have hMk9 := kstMark
  k_with_none
  k_with "Mine.CompSrc" => (k_here; (try k_fmods); k_dflt (refine LCg.CompSrc.range (by rfl) (by k_asm) (by k_asm) (by assumption) (by first | decide | exact small_one (by l_bnd) (by l_bnd) (by l_bnd) (by l_bnd)) (by first | exact rangeSize_nat _ _ | rfl) (by (rw [PySem.sizeLine_eq]; omega)) ?_; intro g'; (refine' kct_range (fun k => partAt y k) (fun k' t' I' oI' C' oC' D' m' ys' h' tk' E' hlo' hhi' hC' hx' F' N' off' ne' => ?_) ?_); (all_goals (try (simp only [LCg.Off3, and_true] at off'))); (all_goals (try ((show KPfMark → _); intro hMark'))); kcf_last))
  w_strict (
  refine wpAny_call ?_
  (k_dflt (refine' code_defC ?k1 ?k2 ?k3 ?k4 ?k5 ?kA ?kF ?kK ?k6 ?k7 ?k8 ?k9 ?kB ?kD ?_ ?c2 ?c3 ?c4; (case kA => exact rfl); (case kF => exact rfl); (case kK => assumption); (case k1 => k_asm); (case k2 => k_asm); (case k3 => k_asm); (case k4 => k_asm); (case k5 => k_asm); (case k6 => k_is); (case k7 => k_is); (case k8 => ktr_room); (case k9 => exact BindsTo.of_eq rfl); (case kB => exact rfl); (case kD => decide +kernel); (case c2 => exact rfl); (case c3 => exact rfl); (case c4 => exact rfl); k_whole; intro g' L' h' tk' cells' FG' F' N' Y' B' X' T' l1; (have l2 : ∀ p ∈ news, p.1 < L' + 1 := fun p hp => Nat.lt_succ_of_lt (l1 p hp)); (have l3 : ∀ p ∈ news, p.1 < L' + 1 + 1 := fun p hp => Nat.lt_succ_of_lt (l2 p hp)); k_cells Y'; (try simp only [List.cons_append, List.nil_append] at N'); (try dsimp only); (try k_lift B'); (try k_fold)))
  k_steps
  skip)
  · rename Pow6 _ _ => hP6
    exact ⟨_, _, _, rfl, by assumption, by assumption, by (simp only [LCg.Off3]; assumption), trivial, kct_part hP6⟩
  · rename CarriedAll _ _ => hC
    rw [Int.sub_zero] at hC
    exact ret _ _ _ _ _ (by assumption) (news_drop4 (by assumption)) (CarriedAll.strsOf hC)
end Mine

namespace Mine
local macro_rules | `(tactic| k_room) => `(tactic| ktr_room)
local macro_rules | `(tactic| k_units) => `(tactic| ktr_units)
theorem lit_quote : Str.ofString "'" = ⟨#[39]⟩ := by decide +kernel
theorem lit_dquote : Str.ofString "\"" = ⟨#[34]⟩ := by decide +kernel
theorem lit_back : Str.ofString "\\" = ⟨#[92]⟩ := by decide +kernel
theorem lit_back2 : Str.ofString "\\\\" = ⟨#[92, 92]⟩ := by decide +kernel
theorem replace_len (x z : Str) (c : Nat) (hz : z.length ≤ 2) : (Txt.replace x ⟨#[c]⟩ z).length ≤ 2 * x.length := by
  have e : ∀ y : Str, y.length = y.cps.toList.length := fun y => by simp [Str.length]
  rw [e, e, replace_flat]
  have : ∀ l : List Nat, (l.flatMap (fun d => if d = c then z.cps.toList else [d])).length ≤ 2 * l.length := by
    intro l
    induction l with
    | nil => simp
    | cons a r ih =>
      rw [List.flatMap_cons, List.length_append, List.length_cons]
      have : (if a = c then z.cps.toList else [a]).length ≤ 2 := by
        split
        · rw [e] at hz; exact hz
        · simp
      omega
  exact this _
theorem fits_r1 {t : Str} (ht : t.length ≤ 100000) : (Txt.replace t (Str.ofString "\\") (Str.ofString "\\\\")).length ≤ sizeLine := by
  have := replace_len t ⟨#[92, 92]⟩ 92 (by decide)
  rw [lit_back, lit_back2, sizeLine_eq]; omega
theorem fits_r2 {t : Str} (ht : t.length ≤ 100000) (c : Nat) (q : Str) (hq : q = ⟨#[c]⟩) : (Txt.replace (Txt.replace t (Str.ofString "\\") (Str.ofString "\\\\")) q (Str.ofString "\\" ++ q)).length ≤ 400000 := by
  have := replace_len t ⟨#[92, 92]⟩ 92 (by decide)
  have := replace_len (Txt.replace t ⟨#[92]⟩ ⟨#[92, 92]⟩) ⟨#[92, c]⟩ c (by simp [Str.length])
  rw [hq, lit_back, lit_back2]
  show (Txt.replace (Txt.replace t ⟨#[92]⟩ ⟨#[92, 92]⟩) ⟨#[c]⟩ ⟨#[92, c]⟩).length ≤ 400000
  omega
theorem fits_q1 {t : Str} (ht : t.length ≤ 100000) : (Txt.replace (Txt.replace t (Str.ofString "\\") (Str.ofString "\\\\")) (Str.ofString "'") (Str.ofString "\\" ++ Str.ofString "'")).length ≤ sizeLine := by
  have := fits_r2 ht 39 _ lit_quote; rw [sizeLine_eq]; omega
theorem fits_q2 {t : Str} (ht : t.length ≤ 100000) : (Txt.replace (Txt.replace t (Str.ofString "\\") (Str.ofString "\\\\")) (Str.ofString "\"") (Str.ofString "\\" ++ Str.ofString "\"")).length ≤ sizeLine := by
  have := fits_r2 ht 34 _ lit_dquote; rw [sizeLine_eq]; omega
theorem fits_app (a : Str) {b : Str} (ha : a.length = 1) (hb : b.length ≤ 400000) : a.length + b.length ≤ sizeLine := by
  rw [sizeLine_eq]; omega
theorem fits_app2 (a : Str) {b c : Str} (ha : a.length = 1) (hc : c.length = 1) (hb : b.length ≤ 400000) : (a ++ b).length + c.length ≤ sizeLine := by
  rw [sizeLine_eq, strLen_append]; omega
section
open PySem.Calls Builtin Builtin.Str
variable {prog : Program} {w : World} {A : Around} {E : Value → Shared → Prop} {s : Shared} {x y z : Str} {t u v : Tok} {Q : Value → Shared → Prop}
/-- str.replace, the count of tokens kept in sight -/
theorem replaceM (hu : u ≠ 0) (hv : v ≠ 0) (huv : u ≠ v) (hyz : (y == z) = false) (hx : x.length ≤ 1048576) (hz : z.length ≤ 14)
    (hq : ∀ t' k, s.toks ≤ k → Q (.str (Txt.replace x y z) t') { s with toks := k }) : wpAny (model prog w) A (call (.builtin "str.replace") [.str x t, .str y u, .str z v]) Q E s := by
  have hb : x.length + (x.length + 1) * z.length ≤ 16777216 := by
    have h1 : (x.length + 1) * z.length ≤ (x.length + 1) * 14 := Nat.mul_le_mul_left _ hz
    omega
  have hl : tooLong (x.length + (occurrences x y 0 x.length (x.length + 1)).length * z.length) = false := by
    have h1 := StrLaws.occ_length_le x y 0 x.length (x.length + 1)
    have h2 : (occurrences x y 0 x.length (x.length + 1)).length * z.length ≤ (x.length + 1) * z.length := Nat.mul_le_mul_right _ h1
    unfold tooLong sizeLine
    exact decide_eq_false (by omega)
  refine call_gives F.slot_str_replace (typeIs_str _ _ _) F.entry_str_replace (F.args_str_replace_3 _ _ _)
    (gives_str_replace x y z t u v fun _ => ⟨by simp [hu, hv], by simp [huv], hyz, hl⟩) ?_
  have hq' := hq
  unfold Txt.replace at hq'
  cases hc : ((occurrences x y 0 x.length (x.length + 1)).isEmpty || (y.length == 0 && z.length == 0))
  · rw [hc] at hq'
    simp only [Bool.false_eq_true, if_false] at hq' ⊢
    exact ⟨fits_replaced y hb, hq' _ _ (Nat.le_succ _)⟩
  · rw [hc] at hq'
    simp only [if_true] at hq' ⊢
    exact hq' t s.toks (Nat.le_refl _)
theorem add_lit (hx : (x.length == 0) = false) (hy : (y.length == 0) = false) (hsz : (x ++ y).length ≤ sizeLine) (h : Q (.str (x ++ y) s.toks) { s with toks := s.toks + 1 }) :
    wpAny (model prog w) A (binaryOp .Add (.str x t) (.str y u)) Q E s := P.add_str (by simp only [hx, hy]; exact ⟨hsz, h⟩)
end
theorem len_r1 {t : Str} (ht : t.length ≤ 100000) : (Txt.replace t (Str.ofString "\\") (Str.ofString "\\\\")).length ≤ 1048576 := by
  have := replace_len t ⟨#[92, 92]⟩ 92 (by decide)
  rw [lit_back, lit_back2]; omega
local macro_rules | `(tactic| walk_at "binaryOp Add str str") => `(tactic| (k_here; (with_reducible show wpAny _ _ (binaryOp Operator.Add (Value.str (Str.ofString _) _) (Value.str (Str.ofString _) _)) _ _ _); (refine add_lit (by decide) (by decide) (by decide) ?_); (try dsimp only)))
local macro_rules | `(tactic| walk_at "binaryOp Add str str") => `(tactic| (k_here; (refine PyProof.Rows.add_str ?_ (by first | exact fits_app _ (by decide) (fits_r2 (by assumption) 39 _ lit_quote) | exact fits_app _ (by decide) (fits_r2 (by assumption) 34 _ lit_dquote) | exact fits_app2 _ (by decide) (by decide) (fits_r2 (by assumption) 39 _ lit_quote) | exact fits_app2 _ (by decide) (by decide) (fits_r2 (by assumption) 34 _ lit_dquote))); intro _ _))
local macro_rules | `(tactic| walk_at "call builtin:str.replace") => `(tactic| (k_here; (refine replaceM (by k_ne) (by k_ne) (by k_ne) (by decide) (by first | omega | exact len_r1 (by assumption)) (by decide) ?_); (intro _ _ hTk); (try dsimp only at hTk); (try dsimp only)))
theorem quoted_done1 {t : Str} (hp : Printable t) (h : (Builtin.Str.occurrences t (Str.ofString "'") 0 t.length 1).isEmpty = true) :
    Str.ofString "'" ++ Txt.replace (Txt.replace t (Str.ofString "\\") (Str.ofString "\\\\")) (Str.ofString "'") (Str.ofString "\\" ++ Str.ofString "'") ++ Str.ofString "'" = reprText t := by
  rw [lit_quote, quote_one] at h
  rw [lit_quote, lit_back, lit_back2]
  refine quoted_repr t hp 39 ?_
  unfold reprQuote
  have : t.cps.contains 39 = false := by simpa using h
  rw [this]; rfl
theorem quoted_done2 {t : Str} (hp : Printable t) (h : (Builtin.Str.occurrences t (Str.ofString "'") 0 t.length 1).isEmpty = false) (h2 : (Builtin.Str.occurrences t (Str.ofString "\"") 0 t.length 1).isEmpty = true) :
    Str.ofString "\"" ++ Txt.replace (Txt.replace t (Str.ofString "\\") (Str.ofString "\\\\")) (Str.ofString "\"") (Str.ofString "\\" ++ Str.ofString "\"") ++ Str.ofString "\"" = reprText t := by
  rw [lit_quote, quote_one] at h
  rw [lit_dquote, quote_one] at h2
  rw [lit_dquote, lit_back, lit_back2]
  refine quoted_repr t hp 34 ?_
  unfold reprQuote
  have : t.cps.contains 39 = true := by simpa using h
  have : t.cps.contains 34 = false := by simpa using h2
  simp_all
theorem quoted_done3 {t : Str} (hp : Printable t) (h : (Builtin.Str.occurrences t (Str.ofString "'") 0 t.length 1).isEmpty = false) (h2 : (Builtin.Str.occurrences t (Str.ofString "\"") 0 t.length 1).isEmpty = false) :
    Str.ofString "'" ++ Txt.replace (Txt.replace t (Str.ofString "\\") (Str.ofString "\\\\")) (Str.ofString "'") (Str.ofString "\\" ++ Str.ofString "'") ++ Str.ofString "'" = reprText t := by
  rw [lit_dquote, quote_one] at h2
  rw [lit_quote, lit_back, lit_back2]
  refine quoted_repr t hp 39 ?_
  unfold reprQuote
  have : t.cps.contains 34 = true := by simpa using h2
  simp_all
set_option maxRecDepth 100000 in
set_option maxHeartbeats 8000000 in
theorem quoted_c {w : World} {mean : ExcName → Option Value} {mg mb : Str → Option Value} {news : List (Addr × Obj)}
    (t : Str) (tt : Tok) (ht : t.length ≤ 100000) (hp : Printable t)
    {dp un : Nat} {gd : Option (List Code)} {cn : Str} {cs : Scope} {a : Addr} {ccd : Value} {cl : List (Str × Addr)} {outer : List Env} {A₀ : Around} {base h₀ : Heap} {L : Addr} {m : Str → Option Value} {s : Shared} {Q E : Value → Shared → Prop}
    (B : Below A₀ base outer h₀) (F : Fr h₀ L s.heap m) (X : (hd.heap_39 w.params).In h₀) (N : News h₀ L s.heap news) (T : Top hd.view_39 (looseW hd.view_39 []) mean mg mb h₀) (hk : cs.kind = .function)
    (hd1 : dp + 3 < recursionLimit)
    (ret : ∀ (r : Str) (t' : Tok) (h' : Heap) (tk' : Nat), r = reprText t → Printable r → r.length ≤ 2 * t.length + 2 → Fr h₀ L h' m → News h₀ L h' news → Q (.str r t') { s with heap := h', toks := tk' }) :
    wpAny (model Challenge.rw_dm0179_02.row.prog w) (ktrTop dp un gd cn cs L a ccd cl outer) (call (.ref 54) [.str t tt]) Q E s := by
  revert X; k_fill; intro X
  w_on
  have hMk9 := kstMark
  w_strict (
  refine wpAny_call ?_
  (k_dflt cell_enter)
  k_steps
  skip)
  · rename (Builtin.Str.occurrences t (Str.ofString "'") 0 t.length 1).isEmpty = true => h1
    have e := quoted_done1 hp h1
    rw [e]
    exact ret _ _ _ _ rfl (printable_repr hp) (repr_len hp) (by assumption) (by assumption)
  · rename (Builtin.Str.occurrences t (Str.ofString "'") 0 t.length 1).isEmpty = false => h1
    rename (Builtin.Str.occurrences t (Str.ofString "\"") 0 t.length 1).isEmpty = true => h2
    have e := quoted_done2 hp h1 h2
    rw [e]
    exact ret _ _ _ _ rfl (printable_repr hp) (repr_len hp) (by assumption) (by assumption)
  · rename (Builtin.Str.occurrences t (Str.ofString "'") 0 t.length 1).isEmpty = false => h1
    rename (Builtin.Str.occurrences t (Str.ofString "\"") 0 t.length 1).isEmpty = false => h2
    have e := quoted_done3 hp h1 h2
    rw [e]
    exact ret _ _ _ _ rfl (printable_repr hp) (repr_len hp) (by assumption) (by assumption)
end Mine

namespace Mine
local macro_rules | `(tactic| k_room) => `(tactic| ktr_room)
local macro_rules | `(tactic| k_units) => `(tactic| ktr_units)
theorem fits_repr {t : Str} (hp : Printable t) (ht : t.length ≤ 100000) : (reprText t).length ≤ sizeLine := by
  have := StrLaws.reprText_len t (fun c hc => by have := hp c hc; have e : (16:Nat)^8 = 4294967296 := by decide
                                                 omega)
  rw [sizeLine_eq]; omega
theorem fits_words {a t : Str} (ha : a.length ≤ 1000) (hp : Printable t) (ht : t.length ≤ 100000) : (a ++ reprText t).length ≤ sizeLine := by
  have := StrLaws.reprText_len t (fun c hc => by have := hp c hc; have e : (16:Nat)^8 = 4294967296 := by decide
                                                 omega)
  rw [sizeLine_eq, strLen_append]; omega
local macro_rules | `(tactic| size_fits) => `(tactic| first | exact fits_repr (by assumption) (by assumption) | exact fits_words (by decide +kernel) (by assumption) (by assumption))
local macro_rules | `(tactic| walk_at "le") => `(tactic| size_fits)
local macro_rules | `(tactic| walk_at "Mine.told_enter") => `(tactic| (refine' code_defS0 ?k1 ?k2 ?k3 ?k4 ?k5 ?kA ?k6 ?k7 ?k8 ?k9 ?kB ?_ ?cK ?c2 ?c3 ?c4 ?c5; (case kA => exact rfl); (case k2 => k_asm); (case k1 => k_asm); (case k3 => k_asm); (case k4 => k_asm); (case k5 => k_asm); (case k6 => k_is); (case k7 => k_is); (case k8 => ktr_room); (case k9 => exact BindsTo.of_eq rfl); (case kB => exact locs rfl); (case cK => assumption); (case c2 => exact rfl); (case c3 => exact rfl); (case c4 => exact rfl); (case c5 => decide); k_whole; intro g' L' h' FG' F' N' B' X' T' D'; (try dsimp only); (try k_lift B'); (try k_fold)))
local macro_rules | `(tactic| walk_at "noteFrame ref") => `(tactic| (k_here; (rename RaisedS _ _ _ _ _ _ _ _ _ => rsX); kts_caught; (rename Got _ _ _ _ _ => gX); (rename News _ _ _ _ => nX); (obtain ⟨oX, tX, hEX, hTX, nM⟩ := got_merge (by assumption) gX nX); clear nX gX))
theorem news_drop3 {h₀ h : Heap} {L : Addr} {p q r : Addr × Obj} {l : List (Addr × Obj)} (N : News h₀ L h (p :: q :: r :: l)) : News h₀ L h (p :: q :: l) := fun x hx => N x (by
  rcases List.mem_cons.mp hx with rfl | hx
  · exact .head _
  rcases List.mem_cons.mp hx with rfl | hx
  · exact .tail _ (.head _)
  · exact .tail _ (.tail _ (.tail _ hx)))
def wordsOf (r : Str) : Str := Str.ofString "Only one '/' permitted in " ++ r
def shownE (n : String) (t : Str) : Str := Str.ofString n ++ reprText t ++ Str.ofString ")"
theorem words_empty (r : Str) : Str.empty ++ Str.ofString "Only one '/' permitted in " ++ r = wordsOf r := by rw [Str.empty_append]; rfl
theorem only_facts : (Str.ofString "Only one '/' permitted in ").length = 26 ∧ Printable (Str.ofString "Only one '/' permitted in ") := by
  refine ⟨by decide +kernel, ?_⟩
  show ∀ c ∈ (Str.ofString "Only one '/' permitted in ").cps.toList, 32 ≤ c ∧ c < 127
  decide +kernel
theorem words_len (r : Str) : (wordsOf r).length = 26 + r.length := by unfold wordsOf; rw [strLen_append, only_facts.1]
theorem words_print {r : Str} (h : Printable r) : Printable (wordsOf r) := printable_app only_facts.2 h
theorem count_repr {t : Str} (hp : Printable t) : t.cps.toList.count 47 ≤ (reprText t).cps.toList.count 47 := by
  rw [reprText_toList, List.count_cons, List.count_append]
  have hq : reprQuote t = 39 ∨ reprQuote t = 34 := by unfold reprQuote; split <;> simp
  have : ∀ l : List Nat, (∀ c ∈ l, 32 ≤ c ∧ c < 127) → l.count 47 ≤ (l.flatMap (Builtin.Str.reprChar (reprQuote t))).count 47 := by
    intro l hl
    induction l with
    | nil => simp
    | cons d r ih =>
      have h1 := ih fun x hx => hl x (.tail _ hx)
      have hd' := hl d (.head _)
      rw [List.flatMap_cons, List.count_cons, List.count_append]
      by_cases e : d = 47
      · subst e
        have : Builtin.Str.reprChar (reprQuote t) 47 = [47] := by
          unfold Builtin.Str.reprChar
          rcases hq with h | h <;> rw [h] <;> simp [printable_ascii]
        rw [this]
        simp
        omega
      · simp [e]
        omega
  have := this t.cps.toList hp
  omega
theorem count_app_ge (a b : Str) (c : Nat) : (a ++ b).cps.toList.count c = a.cps.toList.count c + b.cps.toList.count c := by
  rw [Str.cps_append, Array.toList_append, List.count_append]
theorem split_words {t : Str} (hp : Printable t) (h : 2 < (Txt.split t (Str.ofString "/")).length) : 2 < (Txt.split (wordsOf (reprText t)) (Str.ofString "/")).length := by
  rw [show Str.ofString "/" = (⟨#[47]⟩ : Str) from by decide +kernel, split_count] at h ⊢
  unfold wordsOf
  rw [count_app_ge]
  have := count_repr hp
  omega
theorem split_wordsE {t : Str} (n : String) (hp : Printable t) (h : 2 < (Txt.split t (Str.ofString "/")).length) : 2 < (Txt.split (wordsOf (shownE n t)) (Str.ofString "/")).length := by
  rw [show Str.ofString "/" = (⟨#[47]⟩ : Str) from by decide +kernel, split_count] at h ⊢
  unfold wordsOf shownE
  rw [count_app_ge, count_app_ge, count_app_ge]
  have := count_repr hp
  omega
structure NameOk (n : String) : Prop where
  short : (Str.ofString n).length = 18
  print : Printable (Str.ofString n)
theorem shownE_facts {n : String} {t : Str} (hn : NameOk n) (hp : Printable t) : Printable (shownE n t) ∧ (shownE n t).length ≤ 2 * t.length + 21 := by
  unfold shownE
  have h1 := repr_len hp
  have e4 : (Str.ofString ")").length = 1 := by decide
  have p4 : Printable (Str.ofString ")") := by show ∀ c ∈ (Str.ofString ")").cps.toList, 32 ≤ c ∧ c < 127; decide +kernel
  refine ⟨printable_app (printable_app hn.print (printable_repr hp)) p4, ?_⟩
  rw [strLen_append, strLen_append, hn.short, e4]
  omega
set_option maxRecDepth 100000 in
set_option maxHeartbeats 8000000 in
theorem told_str {w : World} {mean : ExcName → Option Value} {mg mb : Str → Option Value} {news : List (Addr × Obj)}
    (t : Str) (tt : Tok) (ht : t.length ≤ 100000) (hp : Printable t)
    {dp un : Nat} {gd : Option (List Code)} {cn : Str} {cs : Scope} {a : Addr} {ccd : Value} {A₀ : Around} {base h₀ : Heap} {L : Addr} {m : Str → Option Value} {s : Shared} {Q E : Value → Shared → Prop}
    (B : Below A₀ base [] h₀) (F : Fr h₀ L s.heap m) (X : (hd.heap_39 w.params).In h₀) (N : News h₀ L s.heap news) (T : Top hd.view_39 (looseW hd.view_39 []) mean mg mb h₀) (hk : cs.kind = .function)
    (XB : (hd.heap_39 w.params).In base) (TB : Top hd.view_39 (looseW hd.view_39 []) mean mg mb base)
    (hd1 : dp + 3 < recursionLimit) (hu : un + 8 < cLine)
    (ret1 : (Txt.split t (Str.ofString "/")).length ≤ 2 → ∀ (l : Addr) (vs : List Value) (c : Nat) (h' : Heap) (tk' : Nat), Fr h₀ L h' m → News h₀ L h' ((l, W.listOf vs.toArray c) :: news) → StrsAre vs (Txt.split t (Str.ofString "/")) → Q (.ref l) { s with heap := h', toks := tk' })
    (ret2 : 2 < (Txt.split t (Str.ofString "/")).length → ∀ (M : Str) (e t0 : Addr) (oe ot : Obj) (u : Tok) (h' : Heap) (tk' : Nat), M = wordsOf (reprText t) → Printable M → M.length ≤ 2 * t.length + 50 → 2 < (Txt.split M (Str.ofString "/")).length → Fr h₀ L h' m → News h₀ L h' ((e, oe) :: (t0, ot) :: news) → ExcObj oe (.ref 24) t0 → TupObj ot [.str M u] → Q (.ref e) { s with heap := h', toks := tk' }) :
    wpAny (model Challenge.rw_dm0179_02.row.prog w) (ktrTop dp un gd cn cs L a ccd [] []) (call (.ref 66) [.str t tt]) Q E s := by
  revert X; k_fill; intro X
  w_on
  have hMk9 := kstMark
  w_strict (
  refine wpAny_call ?_
  (k_dflt (walk_at "Mine.told_enter"))
  k_steps)
  · rename List.map _ _ = Txt.split _ _ => hlk
    rename (2 : Int) < _ => h2
    rename TupObj _ _ => hTu
    rw [words_empty] at hTu
    have h3 : 2 < (Txt.split t (Str.ofString "/")).length := by rw [← hlk, List.length_map]; omega
    have hrl := repr_len hp
    exact ret2 h3 _ _ _ _ _ _ _ _ rfl (words_print (printable_repr hp)) (by rw [words_len]; omega) (split_words hp h3) (by assumption) (news_drop3 (by assumption)) (by assumption) hTu
  · rename List.map _ _ = Txt.split _ _ => hlk
    rename ¬ (2 : Int) < _ => h2
    exact ret1 (by rw [← hlk, List.length_map]; omega) _ _ _ _ _ (by assumption) (by assumption) (by rw [← hlk]; assumption)
theorem fits_exc {n : String} {t : Str} (hn : (excReprHead n).length ≤ 1000) (hp : Printable t) (ht : t.length ≤ 100000) : (excReprHead n ++ Str.ofString "(" ++ reprText t ++ Str.ofString ")").length ≤ sizeLine := by
  have := StrLaws.reprText_len t (fun c hc => by have := hp c hc; have e : (16:Nat)^8 = 4294967296 := by decide
                                                 omega)
  have e3 : (Str.ofString "(").length = 1 := by decide
  have e4 : (Str.ofString ")").length = 1 := by decide
  rw [sizeLine_eq, strLen_append, strLen_append, strLen_append]; omega
theorem fits_wexc {n : String} {a t : Str} (ha : a.length ≤ 1000) (hn : (excReprHead n).length ≤ 1000) (hp : Printable t) (ht : t.length ≤ 100000) : (a ++ (excReprHead n ++ Str.ofString "(" ++ reprText t ++ Str.ofString ")")).length ≤ sizeLine := by
  have := StrLaws.reprText_len t (fun c hc => by have := hp c hc; have e : (16:Nat)^8 = 4294967296 := by decide
                                                 omega)
  have e3 : (Str.ofString "(").length = 1 := by decide
  have e4 : (Str.ofString ")").length = 1 := by decide
  rw [sizeLine_eq, strLen_append, strLen_append, strLen_append, strLen_append]; omega
local macro_rules | `(tactic| size_fits) => `(tactic| first | exact fits_exc (by assumption) (by assumption) (by assumption) | exact fits_wexc (by decide +kernel) (by assumption) (by assumption) (by assumption))
local macro_rules | `(tactic| walk_at "call type:str") => `(tactic| (k_here; (with_reducible show wpAny _ _ (call (Value.type "str") [Value.ref _]) _ _ _); k_dflt (refine' own_strK ?F ?X ?N ?m1 ?hE ?m2 ?hT ?sub ?hs ?hu ?_; (case F => k_asm); (case X => k_asm); (case N => k_asm); (case m1 => first | kst_mem | k_mem); (case hE => assumption); (case m2 => first | kst_mem | k_mem); (case hT => assumption); (case sub => first | assumption | k_is); (case hs => first | assumption | k_is); (case hu => ktr_units))))
local macro_rules | `(tactic| walk_at "pyReprObj ref") => `(tactic| (k_here; k_dflt (refine' own_reprK ?F ?X ?N ?m1 ?hE ?m2 ?hT ?sub ?hc ?hs ?hu ?hz ?_; (case F => k_asm); (case X => k_asm); (case N => k_asm); (case m1 => first | kst_mem | k_mem); (case hE => assumption); (case m2 => first | kst_mem | k_mem); (case hT => assumption); (case sub => first | assumption | k_is); (case hc => assumption); (case hs => first | assumption | k_is); (case hu => ktr_units); (case hz => size_fits))))
set_option maxRecDepth 100000 in
set_option maxHeartbeats 8000000 in
theorem told_exc {w : World} {mean : ExcName → Option Value} {mg mb : Str → Option Value} {news : List (Addr × Obj)}
    (t : Str) (tt : Tok) (ht : t.length ≤ 100000) (hp : Printable t) {x tx C : Addr} {ox otx : Obj} {cd : ClassData} {nm : String} (hm1 : (x, ox) ∈ news) (hE : ExcObj ox (.ref C) tx) (hm2 : (tx, otx) ∈ news) (hT : TupObj otx [.str t tt])
    {dp un : Nat} {gd : Option (List Code)} {cn : Str} {cs : Scope} {a : Addr} {ccd : Value} {A₀ : Around} {base h₀ : Heap} {L : Addr} {m : Str → Option Value} {s : Shared} {Q E : Value → Shared → Prop}
    (sub : mroIn (hd.heap_39 w.params) C (.type "BaseException") = some true) (hs : findIn (hd.heap_39 w.params) (.ref C) "__str__" = some (some (.builtin "BaseException.__str__"))) (hr : findIn (hd.heap_39 w.params) (.ref C) "__repr__" = some (some (.builtin "BaseException.__repr__")))
    (hc : clsIn (hd.heap_39 w.params) C = some cd) (hn : (excReprHead cd.name.toString).length ≤ 1000)
    (B : Below A₀ base [] h₀) (F : Fr h₀ L s.heap m) (X : (hd.heap_39 w.params).In h₀) (N : News h₀ L s.heap news) (T : Top hd.view_39 (looseW hd.view_39 []) mean mg mb h₀) (hk : cs.kind = .function)
    (XB : (hd.heap_39 w.params).In base) (TB : Top hd.view_39 (looseW hd.view_39 []) mean mg mb base)
    (hd1 : dp + 3 < recursionLimit) (hu : un + 8 < cLine)
    (ret1 : (Txt.split t (Str.ofString "/")).length ≤ 2 → ∀ (l : Addr) (vs : List Value) (c : Nat) (h' : Heap) (tk' : Nat), Fr h₀ L h' m → News h₀ L h' ((l, W.listOf vs.toArray c) :: news) → StrsAre vs (Txt.split t (Str.ofString "/")) → Q (.ref l) { s with heap := h', toks := tk' })
    (hnm : excReprHead cd.name.toString ++ Str.ofString "(" = Str.ofString nm) (hok : NameOk nm)
    (ret2 : 2 < (Txt.split t (Str.ofString "/")).length → ∀ (M : Str) (e t0 : Addr) (oe ot : Obj) (u : Tok) (h' : Heap) (tk' : Nat), M = wordsOf (shownE nm t) → Printable M → M.length ≤ 2 * t.length + 50 → 2 < (Txt.split M (Str.ofString "/")).length → Fr h₀ L h' m → News h₀ L h' ((e, oe) :: (t0, ot) :: news) → ExcObj oe (.ref 24) t0 → TupObj ot [.str M u] → Q (.ref e) { s with heap := h', toks := tk' }) :
    wpAny (model Challenge.rw_dm0179_02.row.prog w) (ktrTop dp un gd cn cs L a ccd [] []) (call (.ref 66) [.ref x]) Q E s := by
  revert X; k_fill; intro X
  w_on
  have hMk9 := kstMark
  w_strict (
  refine wpAny_call ?_
  (k_dflt (walk_at "Mine.told_enter"))
  k_steps)
  · rename List.map _ _ = Txt.split _ _ => hlk
    rename (2 : Int) < _ => h2
    rename TupObj _ [.str (_ ++ _) _] => hTu
    rw [words_empty, hnm] at hTu
    have h3 : 2 < (Txt.split t (Str.ofString "/")).length := by rw [← hlk, List.length_map]; omega
    have hfa := shownE_facts hok hp
    exact ret2 h3 _ _ _ _ _ _ _ _ rfl (words_print hfa.1) (by rw [words_len]; omega) (split_wordsE nm hp h3) (by assumption) (news_drop3 (by assumption)) (by assumption) hTu
  · rename List.map _ _ = Txt.split _ _ => hlk
    rename ¬ (2 : Int) < _ => h2
    exact ret1 (by rw [← hlk, List.length_map]; omega) _ _ _ _ _ (by assumption) (by assumption) (by rw [← hlk]; assumption)

def cd24 : ClassData := { name := Str.ofString "AddressValueError", bases := [.type "ValueError"], mro := [.ref 24, .type "ValueError", .type "Exception", .type "BaseException", .type "object"], ns := 23, qualname := Str.ofString "AddressValueError" }
theorem sub24 (P : Params) : mroIn (hd.heap_39 P) 24 (.type "BaseException") = some true := by kernel_rfl
theorem str24 (P : Params) : findIn (hd.heap_39 P) (.ref 24) "__str__" = some (some (.builtin "BaseException.__str__")) := by kernel_rfl
theorem repr24 (P : Params) : findIn (hd.heap_39 P) (.ref 24) "__repr__" = some (some (.builtin "BaseException.__repr__")) := by kernel_rfl
theorem cls24 (P : Params) : clsIn (hd.heap_39 P) 24 = some cd24 := by kernel_rfl
theorem short24 : (excReprHead cd24.name.toString).length ≤ 1000 := by decide +kernel
theorem head24 : excReprHead cd24.name.toString ++ Str.ofString "(" = Str.ofString "AddressValueError(" := by decide +kernel
theorem ok24 : NameOk "AddressValueError(" := ⟨by decide +kernel, by show ∀ c ∈ (Str.ofString "AddressValueError(").cps.toList, 32 ≤ c ∧ c < 127; decide +kernel⟩

def cd37 : ClassData := { name := Str.ofString "NetmaskValueError", bases := [.type "ValueError"], mro := [.ref 37, .type "ValueError", .type "Exception", .type "BaseException", .type "object"], ns := 36, qualname := Str.ofString "NetmaskValueError" }
theorem sub37 (P : Params) : mroIn (hd.heap_39 P) 37 (.type "BaseException") = some true := by kernel_rfl
theorem str37 (P : Params) : findIn (hd.heap_39 P) (.ref 37) "__str__" = some (some (.builtin "BaseException.__str__")) := by kernel_rfl
theorem repr37 (P : Params) : findIn (hd.heap_39 P) (.ref 37) "__repr__" = some (some (.builtin "BaseException.__repr__")) := by kernel_rfl
theorem cls37 (P : Params) : clsIn (hd.heap_39 P) 37 = some cd37 := by kernel_rfl
theorem short37 : (excReprHead cd37.name.toString).length ≤ 1000 := by decide +kernel
theorem head37 : excReprHead cd37.name.toString ++ Str.ofString "(" = Str.ofString "NetmaskValueError(" := by decide +kernel
theorem ok37 : NameOk "NetmaskValueError(" := ⟨by decide +kernel, by show ∀ c ∈ (Str.ofString "NetmaskValueError(").cps.toList, 32 ≤ c ∧ c < 127; decide +kernel⟩
end Mine

namespace Mine
def stored02 : List Str := [Str.ofString "parts", Str.ofString "text", Str.ofString "thing", Str.ofString "shown", Str.ofString "told", Str.ofString "level", Str.ofString "words"]
def textOf (y : Int) : Str := Str.join ⟨#[47]⟩ (partsOf y)
theorem lit_slash : Str.ofString "/" = ⟨#[47]⟩ := by decide +kernel
theorem sign_facts : ∀ p ∈ signsL, p.length ≤ 8 ∧ 47 ∉ p.cps.toList ∧ (∀ c ∈ p.cps.toList, 32 ≤ c ∧ c < 127) := by decide +kernel
theorem sign_empty : (Str.empty : Str).length ≤ 8 ∧ 47 ∉ (Str.empty : Str).cps.toList ∧ (∀ c ∈ (Str.empty : Str).cps.toList, 32 ≤ c ∧ c < 127) := by decide +kernel
theorem part_facts (y k : Int) : (partAt y k).length ≤ 8 ∧ 47 ∉ (partAt y k).cps.toList ∧ Printable (partAt y k) := by
  unfold partAt
  rw [List.getD_eq_getElem?_getD]
  cases h : signsL[(((y.fdiv 4).fdiv (6 ^ k.toNat)).fmod 6).toNat]? with
  | none => exact sign_empty
  | some p => exact sign_facts p (List.mem_of_getElem? h)
theorem parts_len (y : Int) : (partsOf y).length = (y.fmod 4 + 1).toNat ∧ 1 ≤ (partsOf y).length ∧ (partsOf y).length ≤ 4 := by
  have h1 := Int.fmod_nonneg_of_pos y (show (0 : Int) < 4 by decide)
  have h2 := Int.fmod_lt_of_pos y (show (0 : Int) < 4 by decide)
  have : (partsOf y).length = (y.fmod 4 + 1).toNat := by unfold partsOf; rw [List.length_map, rangeKs_length]
  omega
theorem parts_mem {y : Int} {p : Str} (h : p ∈ partsOf y) : p.length ≤ 8 ∧ 47 ∉ p.cps.toList ∧ Printable p := by
  unfold partsOf at h
  obtain ⟨k, _, rfl⟩ := List.mem_map.mp h
  exact part_facts y k
theorem join_facts : ∀ ps : List Str, (∀ p ∈ ps, p.length ≤ 8 ∧ 47 ∉ p.cps.toList ∧ Printable p) → (Str.join ⟨#[47]⟩ ps).length ≤ 9 * ps.length ∧ Printable (Str.join ⟨#[47]⟩ ps)
  | [], _ => ⟨by decide, by intro c hc; simp [Str.join, Str.empty] at hc⟩
  | [p], h => ⟨by have := (h p (.head _)).1; show p.length ≤ 9 * 1; omega, (h p (.head _)).2.2⟩
  | p :: q :: r, h => by
    obtain ⟨h1, h2⟩ := join_facts (q :: r) fun a ha => h a (.tail _ ha)
    have h3 := h p (.head _)
    have e : Str.join ⟨#[47]⟩ (p :: q :: r) = p ++ ⟨#[47]⟩ ++ Str.join ⟨#[47]⟩ (q :: r) := rfl
    have e1 : (⟨#[47]⟩ : Str).length = 1 := by decide
    rw [e]
    refine ⟨?_, printable_app (printable_app h3.2.2 (by intro c hc; simp at hc; omega)) h2⟩
    rw [strLen_append, strLen_append, e1]
    simp only [List.length_cons] at h1 ⊢
    omega
theorem text_facts (y : Int) : (textOf y).length ≤ 40 ∧ Printable (textOf y) ∧ Txt.split (textOf y) (Str.ofString "/") = partsOf y := by
  have h := join_facts (partsOf y) fun p hp => parts_mem hp
  have hl := parts_len y
  refine ⟨by unfold textOf; omega, h.2, ?_⟩
  rw [lit_slash]
  exact split_join (fun e => by rw [e] at hl; simp at hl) fun p hp => (parts_mem hp).2.1
section
open PySem.Calls
variable {prog : Program} {w : World} {A : Around} {E : Value → Shared → Prop} {s : Shared} {Q : Value → Shared → Prop}
theorem join_parts {h₀ : Heap} {L D : Addr} {news : List (Addr × Obj)} {vs : List Value} {c : Nat} {y : Int} {t : Tok} (N : News h₀ L s.heap news) (hm : (D, W.listOf vs.toArray c) ∈ news) (hS : StrsAre vs (partsOf y))
    (h : ∀ tx t' k, tx.length ≤ 40 → Printable tx → Txt.split tx (Str.ofString "/") = partsOf y → Q (.str tx t') { s with toks := k }) : wpAny (model prog w) A (call (.builtin "str.join") [.str (Str.ofString "/") t, .ref D]) Q E s := by
  have hL : s.heap.IsList D vs.toArray := ⟨_, (N _ hm).1, rfl, c, rfl⟩
  have hf := text_facts y
  have hb : ∀ ps : List Str, (∀ p ∈ ps, p.length ≤ 8) → (ps.map (·.length)).sum ≤ 8 * ps.length := by
    intro ps
    induction ps with
    | nil => intro _; simp
    | cons a r ih => intro h; have := ih fun p hp => h p (.tail _ hp); have := h a (.head _); simp only [List.map_cons, List.sum_cons, List.length_cons]; omega
  have h1 := hb (partsOf y) fun p hp => (parts_mem hp).1
  have h2 := parts_len y
  have e1 : (Str.ofString "/").length = 1 := by decide
  refine join_list hL (by simpa using hS) (by rw [e1]; omega) fun t' k => ?_
  have e : Txt.join (Str.ofString "/") (partsOf y) = textOf y := by
    rw [lit_slash]
    exact StrLaws.glued_eq_join _ _
  rw [e]
  exact h _ t' k hf.1 hf.2.1 hf.2.2
theorem sub_three {value slice : PySem.Expr} {h₀ : Heap} {L l : Addr} {news : List (Addr × Obj)} {v0 v1 v2 : Value} {u : Tok} {n : Nat} {i : Int} (N : News h₀ L s.heap news) (hl : (l, W.listOf #[v0, v1, v2] n) ∈ news)
    (h0 : 0 ≤ i) (h1 : i < 3) (q0 : i = 0 → Q v0 s) (q1 : i = 1 → Q v1 s) (q2 : i = 2 → Q v2 s)
    (hs : subscripted slice false (.ref l) (.int i u) = operate [.ref l, .int i u] (getItem (.ref l) (.int i u)) := by with_unfolding_all rfl) :
    wpAny (model prog w) A (subscriptTail value slice (.ref l) (.int i u)) Q E s := by
  have hL : s.heap.IsList l #[v0, v1, v2] := ⟨_, (N _ hl).1, rfl, n, rfl⟩
  have go : ∀ v, (#[v0, v1, v2] : Array Value)[i.toNat]? = some v → Q v s → wpAny (model prog w) A (subscriptTail value slice (.ref l) (.int i u)) Q E s := fun v hv q =>
    tail_any hL.typeIs slot_list_getitem.lookup (wpAny_getItem_list hL h0 (by omega) hv q) hs
  have : i = 0 ∨ i = 1 ∨ i = 2 := by omega
  rcases this with rfl | rfl | rfl
  · exact go _ rfl (q0 rfl)
  · exact go _ rfl (q1 rfl)
  · exact go _ rfl (q2 rfl)
theorem sub_two {value slice : PySem.Expr} {h₀ : Heap} {L l : Addr} {news : List (Addr × Obj)} {v0 v1 : Value} {u : Tok} {n : Nat} {i : Int} (N : News h₀ L s.heap news) (hl : (l, W.listOf #[v0, v1] n) ∈ news)
    (h0 : 0 ≤ i) (h1 : i < 2) (q0 : i = 0 → Q v0 s) (q1 : i = 1 → Q v1 s)
    (hs : subscripted slice false (.ref l) (.int i u) = operate [.ref l, .int i u] (getItem (.ref l) (.int i u)) := by with_unfolding_all rfl) :
    wpAny (model prog w) A (subscriptTail value slice (.ref l) (.int i u)) Q E s := by
  have hL : s.heap.IsList l #[v0, v1] := ⟨_, (N _ hl).1, rfl, n, rfl⟩
  have go : ∀ v, (#[v0, v1] : Array Value)[i.toNat]? = some v → Q v s → wpAny (model prog w) A (subscriptTail value slice (.ref l) (.int i u)) Q E s := fun v hv q =>
    tail_any hL.typeIs slot_list_getitem.lookup (wpAny_getItem_list hL h0 (by omega) hv q) hs
  have : i = 0 ∨ i = 1 := by omega
  rcases this with rfl | rfl
  · exact go _ rfl (q0 rfl)
  · exact go _ rfl (q1 rfl)
end
theorem eq_words {M W r X : Str} (h1 : M = wordsOf X) (h2 : W = wordsOf r) (h3 : r = X) : M = W := by rw [h1, h2, h3]
theorem lt3_pos {n : Nat} (h : n ≤ 2) : decide ((n : Int) < 3) = true := by simp only [decide_eq_true_eq]; omega
theorem lt3_neg {n : Nat} (h : 2 < n) : ¬ decide ((n : Int) < 3) = true := by simp only [decide_eq_true_eq]; omega
theorem no_both {n : Nat} (h : n ≤ 2) (h' : 2 < n) : False := by omega
section
variable {prog : Program} {w : World} {A : Around} {E : Value → Shared → Prop} {s : Shared} {Q : Value → Shared → Prop}
theorem len_parts {h₀ : Heap} {L D : Addr} {news : List (Addr × Obj)} {vs : List Value} {c : Nat} {y : Int} (N : News h₀ L s.heap news) (hm : (D, W.listOf vs.toArray c) ∈ news) (hS : StrsAre vs (partsOf y))
    (h : (partsOf y).length ≤ 4 → Q (.int ((partsOf y).length : Int) (s.toks + 1)) { s with toks := s.toks + 1 + 1 }) : wpAny (model prog w) A (call (.builtin "len") [.ref D]) Q E s :=
  kst_len N hm hS.length (by have := parts_len y; omega) (h (parts_len y).2.2)
theorem add_words {r : Str} {t u : Tok} (hp : Printable r) (hl : r.length ≤ 100000) (h : ∀ W t' k, W = wordsOf r → Printable W → W.length = 26 + r.length → Q (.str W t') { s with toks := k }) :
    wpAny (model prog w) A (binaryOp .Add (.str (Str.ofString "Only one '/' permitted in ") t) (.str r u)) Q E s :=
  PyProof.Rows.add_str (fun t' k => h _ t' k rfl (words_print hp) (words_len r)) (by rw [only_facts.1, sizeLine_eq]; omega)
theorem add_name {n : String} {r : Str} {t u : Tok} (hn : NameOk n) (hl : r.length ≤ 100000) (h : ∀ t' k, Q (.str (Str.ofString n ++ r) t') { s with toks := k }) :
    wpAny (model prog w) A (binaryOp .Add (.str (Str.ofString n) t) (.str r u)) Q E s :=
  PyProof.Rows.add_str (fun t' k => h t' k) (by rw [hn.short, sizeLine_eq]; omega)
theorem add_close {n : String} {r x : Str} {t u : Tok} (hn : NameOk n) (hl : r.length ≤ 100000) (hx : Printable x) (hxl : x.length ≤ 40000) (hr : r = reprText x) (h : ∀ R t' k, R = shownE n x → Printable R → R.length ≤ 2 * x.length + 21 → Q (.str R t') { s with toks := k }) :
    wpAny (model prog w) A (binaryOp .Add (.str (Str.ofString n ++ r) t) (.str (Str.ofString ")") u)) Q E s := by
  subst hr
  have hf := shownE_facts hn hx
  refine PyProof.Rows.add_str (fun t' k => h _ t' k rfl hf.1 hf.2) ?_
  have e4 : (Str.ofString ")").length = 1 := by decide
  rw [strLen_append, hn.short, e4, sizeLine_eq]
  omega
end
theorem unr_ne {h₀ h : Heap} {L e t D i : Addr} {oe ot oD it : Obj} {cls : Value} {vs : List Value} {led : List (Addr × Obj)} (N : News h₀ L h ((e, oe) :: (t, ot) :: (D, oD) :: (i, it) :: led)) (hE : ExcObj oe (.ref 24) t) (hT : TupObj ot vs) (hit : it.cls = cls) (h1 : (cls == .type "tuple") = false) (h2 : (cls == .ref 24) = false) :
    (@Ne Nat e i) ∧ (@Ne Nat t i) := by
  have q0 := (N _ (.head _)).1
  have q1 := (N _ (.tail _ (.head _))).1
  have q3 := (N _ (.tail _ (.tail _ (.tail _ (.head _))))).1
  refine ⟨fun ee => ?_, fun ee => ?_⟩
  · subst ee
    have := Option.some.inj (q0.symm.trans q3)
    have c := hE.cls_
    rw [show oe = it from this, hit] at c
    subst c
    simp at h2
  · subst ee
    have := Option.some.inj (q1.symm.trans q3)
    have c := hT.cls_
    rw [show ot = it from this, hit] at c
    subst c
    simp at h1
theorem allLt_ne {d : Addr} {l : List (Addr × Obj)} (h : AllLt d l) : ∀ p ∈ l, p.1 ≠ d := fun p hp => Nat.ne_of_lt (kst_ltOf h p hp)
theorem unr_end {h₀ : Heap} {L e t D I e1 t1 : Addr} {oe ot oD it oe1 ot1 : Obj} {cls : Value} {vs : List Value} {led : List (Addr × Obj)} {a b : Nat} {rest : (Str → Option Value) → List (Addr × Obj) → Prop} {s₁ : Shared} {h' : Heap} {tk : Nat} {m' : Str → Option Value}
    (F : Fr h₀ L h' m') (N : News h₀ L h' ((e, oe) :: (t, ot) :: (D, oD) :: (I, it) :: (e1, oe1) :: (t1, ot1) :: led)) (hE : ExcObj oe (.ref 24) t) (hT : TupObj ot vs) (hit : it.cls = cls) (h1 : (cls == .type "tuple") = false) (h2 : (cls == .ref 24) = false)
    (hlt : @LT.lt Nat _ a I ∧ @LT.lt Nat _ b I ∧ AllLt I led) (r : rest m' ((e, oe) :: (t, ot) :: led)) : UnrEnd h₀ L s₁ I it rest { s₁ with heap := h', toks := tk } := by
  obtain ⟨n1, n2⟩ := unr_ne N hE hT hit h1 h2
  refine UnrEnd.intro F N _ (fun p hp => ?_) (fun p hp => ?_) r
  · rcases List.mem_cons.mp hp with rfl | hp
    · exact .tail _ (.tail _ (.tail _ (.head _)))
    rcases List.mem_cons.mp hp with rfl | hp
    · exact .head _
    rcases List.mem_cons.mp hp with rfl | hp
    · exact .tail _ (.head _)
    · exact .tail _ (.tail _ (.tail _ (.tail _ (.tail _ (.tail _ hp)))))
  · rcases List.mem_cons.mp hp with rfl | hp
    · exact n1
    rcases List.mem_cons.mp hp with rfl | hp
    · exact n2
    · exact allLt_ne hlt.2.2 p hp
end Mine

open Mine
local macro_rules | `(tactic| walk_at "exec For") => `(tactic| (k_here; (with_reducible show wpAny _ _ (exec (Stmt.For _ (Expr.BinOp _ _ _ _) _ _ _) _) _ _ _); (rename Fr _ _ _ _ => lF'); (with_unfolding_all refine' For_invVF lF' ?k1 ?k2 ?_; (case k1 => exact rfl); (case k2 => exact rfl); k_whole)))
local macro_rules | `(tactic| walk_at "pyIter ref") => `(tactic| (
  k_here
  (with_reducible show wpAny _ _ (pyIter (Value.ref _)) (fun it s₂ => LoopAtV _ _ _ _ _ _ _ _ _ it s₂) _ _)
  (rename Fr _ _ _ _ => lF'); (rename News _ _ _ _ => lN')
  (with_unfolding_all refine' kst_listL (σ := Unit) (fun _ => _) (fun _ => []) (fun _ => True) [Str.ofString "parts", Str.ofString "text", Str.ofString "thing", Str.ofString "shown", Str.ofString "told", Str.ofString "level", Str.ofString "words"] (fun _ _ => True) () (by rfl) (fun _ => ?k0) ?k1 lF' lN' trivial (fun _ h => nomatch h) trivial ?_ ?_)
  (case k0 => k_mem); (case k1 => assumption)
  (all_goals (try clear lF' lN'))
  rotate_left
  (intro _ kU kH kTk kFacts kInv kFr kNews)
  rotate_left
  (intro _ kPre kPost kN kT kU kH kTk kOwn kEq kMem kOff kFacts kInv kFr kNews); (clear kEq)
  (simp only [List.cons_append, List.nil_append] at kNews)
  (dsimp only [kstB] at kFr)
  (have hMk9 := kstMark)
  (all_goals (try k_fold))))
local macro_rules | `(tactic| walk_at "call ref") => `(tactic| (k_here; (show wpAny _ _ (call (Value.ref 59) [Value.int _ _]) _ _ _); k_dflt (refine' parts_c _ _ ?B ?F ?X ?N ?T ?hk ?hd ?hu ?_; (case B => k_asm); (case F => k_asm); (case X => k_asm); (case N => k_asm); (case T => k_asm); (case hk => exact rfl); (case hd => ktr_room); (case hu => ktr_units)); intro l' vs' c' h' tk' F' N' hS'; (try k_sweep)))
local macro_rules | `(tactic| walk_at "call ref") => `(tactic| (k_here; (show wpAny _ _ (call (Value.ref 54) [Value.str _ _]) _ _ _); k_dflt (refine' quoted_c _ _ ?ht ?hp ?B ?F ?X ?N ?T ?hk ?hd ?_; (case B => k_asm); (case F => k_asm); (case X => k_asm); (case N => k_asm); (case T => k_asm); (case hk => exact rfl); (case hd => ktr_room); (case ht => first | assumption | omega | fail "quoted: length"); (case hp => first | assumption | fail "quoted: printable")); intro r' t' h' tk' hRe hRp hRl F' N'; (try k_sweep)))
local macro_rules | `(tactic| walk_at "subscriptTail") => `(tactic| (k_here; (with_reducible show wpAny _ _ (subscriptTail _ _ (Value.ref _) (Value.int (Int.fmod _ 3) _)) _ _ _); (k_dflt (refine' sub_three ?N ?m ?a ?b ?_ ?_ ?_; (case N => k_asm); (case m => k_mem); (case a => exact Int.fmod_nonneg_of_pos _ (by decide)); (case b => exact Int.fmod_lt_of_pos _ (by decide)))) <;> intro hX3))
local macro_rules | `(tactic| walk_at "subscriptTail") => `(tactic| (k_here; (with_reducible show wpAny _ _ (subscriptTail _ _ (Value.ref _) (Value.int (Int.fmod _ 3 - 1) _)) _ _ _); (k_dflt (refine' sub_two ?N ?m ?a ?b ?_ ?_; (case N => k_asm); (case m => k_mem); (case a => (rename Int.fmod _ 3 = _ => h9; rw [h9]; decide)); (case b => (rename Int.fmod _ 3 = _ => h9; rw [h9]; decide)))) <;> (intro hX2; first | ((rename Int.fmod _ 3 = _ => h9); rw [h9] at hX2; exact absurd hX2 (by decide)) | skip)))
local macro_rules | `(tactic| walk_at "call builtin:str.join") => `(tactic| (k_here; k_dflt (refine' join_parts ?N ?m ?h ?_; (case N => k_asm); (case m => k_mem); (case h => assumption)); intro tx' t' k' hTl hTp hTs))
local macro_rules | `(tactic| walk_at "call ref") => `(tactic| (k_here; (show wpAny _ _ (call (Value.ref 24) [Value.str _ _]) _ _ _); k_dflt (refine' own_newK PySem.F.excBase_ValueError ?F ?X ?q ?N ?_ ?z; (case F => k_asm); (case X => k_asm); (case q => kernel_rfl); (case N => k_asm); (case z => exact Nat.le_of_ble_eq_true rfl)); intro h' e' t' oe' ot' F' N' hEX hTX _ _; (try k_sweep)))
local macro_rules | `(tactic| walk_at "call ref") => `(tactic| (k_here; (show wpAny _ _ (call (Value.ref 37) [Value.str _ _]) _ _ _); k_dflt (refine' own_newK PySem.F.excBase_ValueError ?F ?X ?q ?N ?_ ?z; (case F => k_asm); (case X => k_asm); (case q => kernel_rfl); (case N => k_asm); (case z => exact Nat.le_of_ble_eq_true rfl)); intro h' e' t' oe' ot' F' N' hEX hTX _ _; (try k_sweep)))
local macro_rules | `(tactic| walk_at "call builtin:len") => `(tactic| (k_here; (with_reducible show wpAny _ _ (call (Value.builtin "len") [Value.ref _]) _ _ _); k_dflt (refine' len_parts ?N ?m ?h ?_; (case N => k_asm); (case m => k_mem); (case h => assumption)); intro hL4))
local macro_rules | `(tactic| walk_at "binaryOp Add str str") => `(tactic| (k_here; (with_reducible show wpAny _ _ (binaryOp Operator.Add (Value.str (Str.ofString "Only one '/' permitted in ") _) (Value.str _ _)) _ _ _); (refine add_words (by assumption) (by omega) ?_); (intro W' t' k' hWe hWp hWl)))
local macro_rules | `(tactic| walk_at "binaryOp Add str str") => `(tactic| (k_here; (with_reducible show wpAny _ _ (binaryOp Operator.Add (Value.str (Str.ofString "AddressValueError(") _) (Value.str _ _)) _ _ _); (refine add_name ok24 (by omega) ?_); (intro t' k')))
local macro_rules | `(tactic| walk_at "binaryOp Add str str") => `(tactic| (k_here; (with_reducible show wpAny _ _ (binaryOp Operator.Add (Value.str (Str.ofString "NetmaskValueError(") _) (Value.str _ _)) _ _ _); (refine add_name ok37 (by omega) ?_); (intro t' k')))
local macro_rules | `(tactic| walk_at "binaryOp Add str str") => `(tactic| (k_here; (with_reducible show wpAny _ _ (binaryOp Operator.Add (Value.str (_ ++ _) _) (Value.str (Str.ofString ")") _)) _ _ _); (first | (refine add_close ok24 (by omega) ?_ ?_ (by assumption) ?_; rotate_left; rotate_left) | (refine add_close ok37 (by omega) ?_ ?_ (by assumption) ?_; rotate_left; rotate_left)); (intro R' t' k' hRe hRp hRl); rotate_left; (assumption); (omega)))
local macro_rules | `(tactic| walk_at "call ref") => `(tactic| (k_here; (show wpAny _ _ (call (Value.ref 66) [Value.str _ _]) _ _ _); k_dflt (refine' told_str _ _ ?ht ?hp ?B ?F ?X ?N ?T ?hk ?XB ?TB ?hd ?hu ?_ ?_; (case B => k_asm); (case F => k_asm); (case X => k_asm); (case N => k_asm); (case T => k_asm); (case hk => exact rfl); (case XB => k_asm); (case TB => k_asm); (case hd => ktr_room); (case hu => ktr_units); (case ht => omega); (case hp => assumption)); rotate_left; (intro hLn M' e' t0' oe' ot' u' h' tk' hMe hMp hMl hMs F' N' hEX hTX; (try (rename Txt.split _ _ = partsOf _ => hTs9; rw [hTs9] at hLn)); (try k_sweep)); rotate_left; (intro hLn l' vs' c' h' tk' F' N' hS'; (try (rename Txt.split _ _ = partsOf _ => hTs9; rw [hTs9] at hLn hS')); (try k_sweep))))
local macro_rules | `(tactic| walk_at "call ref") => `(tactic| (k_here; (show wpAny _ _ (call (Value.ref 66) [Value.ref _]) _ _ _); k_dflt (first
  | (refine' told_exc _ _ ?ht ?hp ?m1 ?hE ?m2 ?hT (sub24 _) (str24 _) (repr24 _) (cls24 _) short24 ?B ?F ?X ?N ?T ?hk ?XB ?TB ?hd ?hu ?_ head24 ok24 ?_; (case F => k_asm); (case N => k_asm); (case m1 => k_mem); (case hE => assumption); (case m2 => k_mem); (case hT => assumption); (case B => k_asm); (case X => k_asm); (case T => k_asm); (case hk => exact rfl); (case XB => k_asm); (case TB => k_asm); (case hd => ktr_room); (case hu => ktr_units); (case ht => omega); (case hp => assumption))
  | (refine' told_exc _ _ ?ht ?hp ?m1 ?hE ?m2 ?hT (sub37 _) (str37 _) (repr37 _) (cls37 _) short37 ?B ?F ?X ?N ?T ?hk ?XB ?TB ?hd ?hu ?_ head37 ok37 ?_; (case F => k_asm); (case N => k_asm); (case m1 => k_mem); (case hE => assumption); (case m2 => k_mem); (case hT => assumption); (case B => k_asm); (case X => k_asm); (case T => k_asm); (case hk => exact rfl); (case XB => k_asm); (case TB => k_asm); (case hd => ktr_room); (case hu => ktr_units); (case ht => omega); (case hp => assumption))); rotate_left; (intro hLn M' e' t0' oe' ot' u' h' tk' hMe hMp hMl hMs F' N' hEX hTX; (try (rename Txt.split _ _ = partsOf _ => hTs9; rw [hTs9] at hLn)); (try k_sweep)); rotate_left; (intro hLn; first | exact (no_both hLn (by assumption)).elim | (intro l' vs' c' h' tk' F' N' hS'; (try (rename Txt.split _ _ = partsOf _ => hTs9; rw [hTs9] at hLn hS')); (try k_sweep)))))
local macro_rules | `(tactic| walk_at "UnrEnd") => `(tactic| (refine unr_end (by assumption) (by assumption) (by assumption) (by assumption) rfl rfl rfl (by (simp only [AllLt]; assumption)) ?_))
local macro_rules | `(tactic| walk_at "compareOp NotEq ref ref") => `(tactic| (k_here; k_dflt (first
  | (refine' ne_lists ?N ?a ?b ?i ?j ?p ?u ?_; (case N => k_asm); (case a => k_mem); (case b => k_mem); (case i => assumption); (case j => assumption); (case p => exact fun p hp => (parts_mem hp).2.2); (case u => exact Nat.le_of_ble_eq_true rfl))
  | (refine' ne_tup1 ?N ?a ?b ?i ?j ?p ?e ?u ?_; (case N => k_asm); (case a => k_mem); (case b => k_mem); (case i => assumption); (case j => first | exact ⟨rfl, _, rfl⟩ | fail "ne_tup1: the other"); (case e => exact eq_words (by assumption) (by assumption) (by assumption)); (case p => assumption); (case u => exact Nat.le_of_ble_eq_true rfl); (intro e9; subst e9))
  | fail "mine: not equal")))
local macro_rules | `(tactic| walk_at "ite") => `(tactic| (k_here; k_openite; first | (refine PySem.W.ite_pos (lt3_pos (by assumption)) ?_) | (refine PySem.W.ite_neg (lt3_neg (by assumption)) ?_)))
local macro_rules | `(tactic| walk_at "call type:type") => `(tactic| (k_here; (with_reducible show wpAny _ _ (call (Value.type "type") [Value.ref _]) _ _ _); k_dflt (refine' own_typeK ?N ?m ?h ?b ?_; (case N => k_asm); (case m => k_mem); (case h => assumption); (case b => rfl))))
local macro_rules | `(tactic| walk_at "getAttr ref") => `(tactic| (k_here; (with_reducible show wpAny _ _ (getAttr (Value.ref _) (Str.ofString "args") _) _ _ _); k_dflt (refine' own_argsK (newId := "ValueError.__new__") ?F ?X ?q ?N ?m ?h ?_; (case F => k_asm); (case X => k_asm); (case N => k_asm); (case m => k_mem); (case h => assumption); (case q => kernel_rfl))))
set_option maxRecDepth 100000 in
set_option maxHeartbeats 8000000 in
theorem PySem.Challenge.cw_dm0179_02_holds : PySem.Challenge.rw_dm0179_02.Holds := by
  refine hd ?_
  k_with_none
  w_strict (k_go0; (all_goals try k_fold); k_steps)
